import PyProof.Rows.All
import Wide.All
import OpenK.AllK
import Wide.FinOn
import PySem.Challenge.RW_in0305_01
set_option Elab.async false
set_option linter.unusedVariables false
set_option maxRecDepth 100000
set_option compiler.extract_closed false
set_option genSizeOf false
namespace Mine
open PySem PySem.W PySem.Calls PyProof.Rows PySem.Spec
theorem said1 : OpenLaw.wellSaid PySem.Challenge.rw_in0305_01 = true := by
  rw [PySem.W.Fast.te9446332074065402090]
  kernel_rfl
end Mine
namespace Mine
open PySem PySem.W PySem.Calls PyProof.Rows PySem.Spec
noncomputable abbrev pw0 : Program := PySem.Challenge.pw_in0305_01
noncomputable def vw : Program := view pw0 [0, 2, 3, 5, 6, 8, 9, 11, 12, 13, 14, 15, 16, 17, 19, 20, 21, 22, 23, 24, 25, 26, 27, 28, 29, 30, 31, 32, 33, 34, 35, 36]
noncomputable abbrev lo : List Str := [Str.ofString "_twin_re_1", Str.ofString "_special_chars_map"]
noncomputable def KK : Params → Frag := fun P => [
 (3, { cls := Value.type "dict", data := Data.dict #[{ hash := PyData.keyHash P (Str.ofString "__name__"), key := Value.str (Str.ofString "__name__") 165, val := Value.str (Str.ofString "law_in0305_01") 590 }, { hash := PyData.keyHash P (Str.ofString "__doc__"), key := Value.str (Str.ofString "__doc__") 166, val := Value.none }, { hash := PyData.keyHash P (Str.ofString "__package__"), key := Value.str (Str.ofString "__package__") 167, val := Value.none }, { hash := PyData.keyHash P (Str.ofString "__loader__"), key := Value.str (Str.ofString "__loader__") 168, val := Value.builtin "__main__.__loader__#opaque" }, { hash := PyData.keyHash P (Str.ofString "__spec__"), key := Value.str (Str.ofString "__spec__") 169, val := Value.none }, { hash := PyData.keyHash P (Str.ofString "__annotations__"), key := Value.str (Str.ofString "__annotations__") 170, val := Value.ref 6 }, { hash := PyData.keyHash P (Str.ofString "__builtins__"), key := Value.str (Str.ofString "__builtins__") 171, val := Value.ref 4 }, { hash := PyData.keyHash P (Str.ofString "__file__"), key := Value.str (Str.ofString "__file__") 173, val := Value.str (Str.ofString "/claim/cut.py") 172 }, { hash := PyData.keyHash P (Str.ofString "__cached__"), key := Value.str (Str.ofString "__cached__") 174, val := Value.none }, { hash := PyData.keyHash P (Str.ofString "_sre"), key := Value.str (Str.ofString "_sre") 275, val := Value.ref 12 }, { hash := PyData.keyHash P (Str.ofString "_twin_re_1"), key := Value.str (Str.ofString "_twin_re_1") 321, val := Value.ref 36 }, { hash := PyData.keyHash P (Str.ofString "translate"), key := Value.str (Str.ofString "translate") 330, val := Value.ref 43 }, { hash := PyData.keyHash P (Str.ofString "_special_chars_map"), key := Value.str (Str.ofString "_special_chars_map") 478, val := Value.ref 45 }, { hash := PyData.keyHash P (Str.ofString "escape"), key := Value.str (Str.ofString "escape") 485, val := Value.ref 55 }, { hash := PyData.keyHash P (Str.ofString "_translate"), key := Value.str (Str.ofString "_translate") 506, val := Value.ref 62 }, { hash := PyData.keyHash P (Str.ofString "_join_translated_parts"), key := Value.str (Str.ofString "_join_translated_parts") 519, val := Value.ref 69 }, { hash := PyData.keyHash P (Str.ofString "heappush"), key := Value.str (Str.ofString "heappush") 529, val := Value.ref 76 }, { hash := PyData.keyHash P (Str.ofString "heappop"), key := Value.str (Str.ofString "heappop") 538, val := Value.ref 83 }, { hash := PyData.keyHash P (Str.ofString "heapreplace"), key := Value.str (Str.ofString "heapreplace") 547, val := Value.ref 90 }, { hash := PyData.keyHash P (Str.ofString "heappushpop"), key := Value.str (Str.ofString "heappushpop") 555, val := Value.ref 97 }, { hash := PyData.keyHash P (Str.ofString "heapify"), key := Value.str (Str.ofString "heapify") 564, val := Value.ref 104 }, { hash := PyData.keyHash P (Str.ofString "_siftdown"), key := Value.str (Str.ofString "_siftdown") 576, val := Value.ref 111 }, { hash := PyData.keyHash P (Str.ofString "_siftup"), key := Value.str (Str.ofString "_siftup") 589, val := Value.ref 118 }, { hash := PyData.keyHash P (Str.ofString "_law_pieces"), key := Value.str (Str.ofString "_law_pieces") 597, val := Value.ref 125 }, { hash := PyData.keyHash P (Str.ofString "_law_items"), key := Value.str (Str.ofString "_law_items") 603, val := Value.ref 130 }, { hash := PyData.keyHash P (Str.ofString "_law_name"), key := Value.str (Str.ofString "_law_name") 609, val := Value.ref 135 }, { hash := PyData.keyHash P (Str.ofString "_law_sign"), key := Value.str (Str.ofString "_law_sign") 617, val := Value.ref 142 }, { hash := PyData.keyHash P (Str.ofString "_law_set"), key := Value.str (Str.ofString "_law_set") 629, val := Value.ref 149 }, { hash := PyData.keyHash P (Str.ofString "_law_row"), key := Value.str (Str.ofString "_law_row") 642, val := Value.ref 156 }, { hash := PyData.keyHash P (Str.ofString "_law_fits"), key := Value.str (Str.ofString "_law_fits") 648, val := Value.ref 161 }, { hash := PyData.keyHash P (Str.ofString "_law_runs"), key := Value.str (Str.ofString "_law_runs") 657, val := Value.ref 168 }, { hash := PyData.keyHash P (Str.ofString "_law_at"), key := Value.str (Str.ofString "_law_at") 663, val := Value.ref 173 }, { hash := PyData.keyHash P (Str.ofString "_law_reads"), key := Value.str (Str.ofString "_law_reads") 669, val := Value.ref 178 }, { hash := PyData.keyHash P (Str.ofString "_law_out"), key := Value.str (Str.ofString "_law_out") 679, val := Value.ref 185 }, { hash := PyData.keyHash P (Str.ofString "_law_first"), key := Value.str (Str.ofString "_law_first") 690, val := Value.ref 192 }, { hash := PyData.keyHash P (Str.ofString "_law_store"), key := Value.str (Str.ofString "_law_store") 696, val := Value.ref 197 }, { hash := PyData.keyHash P (Str.ofString "_law_means"), key := Value.str (Str.ofString "_law_means") 704, val := Value.ref 204 }, { hash := PyData.keyHash P (Str.ofString "_law_takes"), key := Value.str (Str.ofString "_law_takes") 712, val := Value.ref 211 }, { hash := PyData.keyHash P (Str.ofString "_law_put"), key := Value.str (Str.ofString "_law_put") 718, val := Value.ref 216 }, { hash := PyData.keyHash P (Str.ofString "_law_plain"), key := Value.str (Str.ofString "_law_plain") 724, val := Value.ref 221 }, { hash := PyData.keyHash P (Str.ofString "law"), key := Value.str (Str.ofString "law") 730, val := Value.ref 226 }] 41 }), (35, { cls := Value.type "tuple", data := Data.seq #[Value.int 14 0, Value.int 14 0, Value.int 4 0, Value.int 1 0, Value.int 1 0, Value.int 9 0, Value.int 0 0, Value.int 64 0, Value.int 0 0, Value.int 1342177280 0, Value.int 0 0, Value.int 0 0, Value.int 0 0, Value.int 0 0, Value.int 0 0, Value.int 17 0, Value.int 0 0, Value.int 13 0, Value.int 11 0, Value.int 9 0, Value.int 0 0, Value.int 64 0, Value.int 0 0, Value.int 1342177280 0, Value.int 0 0, Value.int 0 0, Value.int 0 0, Value.int 0 0, Value.int 0 0, Value.int 17 0, Value.int 1 0, Value.int 1 0] }), (36, { cls := Value.type "re.Pattern", data := Data.fields #[Value.str (Str.ofString "([&~|])") 285, Value.int 32 320, Value.int 1 0, Value.none, Value.none, Value.ref 35, Value.int 0 0] }), (45, { cls := Value.type "dict", data := Data.dict #[{ hash := 40, key := Value.int 40 334, val := Value.str (Str.ofString "\\(") 338 }, { hash := 41, key := Value.int 41 340, val := Value.str (Str.ofString "\\)") 344 }, { hash := 91, key := Value.int 91 346, val := Value.str (Str.ofString "\\[") 350 }, { hash := 93, key := Value.int 93 352, val := Value.str (Str.ofString "\\]") 356 }, { hash := 123, key := Value.int 123 358, val := Value.str (Str.ofString "\\{") 362 }, { hash := 125, key := Value.int 125 364, val := Value.str (Str.ofString "\\}") 368 }, { hash := 63, key := Value.int 63 370, val := Value.str (Str.ofString "\\?") 374 }, { hash := 42, key := Value.int 42 376, val := Value.str (Str.ofString "\\*") 380 }, { hash := 43, key := Value.int 43 382, val := Value.str (Str.ofString "\\+") 386 }, { hash := 45, key := Value.int 45 388, val := Value.str (Str.ofString "\\-") 392 }, { hash := 124, key := Value.int 124 394, val := Value.str (Str.ofString "\\|") 398 }, { hash := 94, key := Value.int 94 400, val := Value.str (Str.ofString "\\^") 404 }, { hash := 36, key := Value.int 36 406, val := Value.str (Str.ofString "\\$") 410 }, { hash := 92, key := Value.int 92 412, val := Value.str (Str.ofString "\\\\") 416 }, { hash := 46, key := Value.int 46 418, val := Value.str (Str.ofString "\\.") 422 }, { hash := 38, key := Value.int 38 424, val := Value.str (Str.ofString "\\&") 428 }, { hash := 126, key := Value.int 126 430, val := Value.str (Str.ofString "\\~") 434 }, { hash := 35, key := Value.int 35 436, val := Value.str (Str.ofString "\\#") 440 }, { hash := 32, key := Value.int 32 442, val := Value.str (Str.ofString "\\ ") 446 }, { hash := 9, key := Value.int 9 448, val := Value.str (Str.ofString "\\\t") 452 }, { hash := 10, key := Value.int 10 454, val := Value.str (Str.ofString "\\\n") 458 }, { hash := 13, key := Value.int 13 460, val := Value.str (Str.ofString "\\\x0d") 464 }, { hash := 11, key := Value.int 11 466, val := Value.str (Str.ofString "\\\x0b") 470 }, { hash := 12, key := Value.int 12 472, val := Value.str (Str.ofString "\\\x0c") 476 }] 24 }), (61, { cls := Value.type "code", data := Data.fields #[Value.str (Str.ofString "_translate") 488, Value.str (Str.ofString "_translate") 489, Value.str (Str.ofString "/claim/cut.py") 490, Value.int 17 0, Value.int 3 0, Value.int 0 0, Value.int 0 0, Value.int 3 0, Value.ref 56, Value.bool true, Value.int 276 0, Value.ref 57, Value.none, Value.ref 58, Value.ref 59, Value.ref 60, Value.int 504 0, Value.int 17 0, Value.str (Str.ofString "/claim/cut.py") 505] })]
noncomputable def c62 (h : Heap) : Option Value := match h.get? 62 with
  | some ⟨_, _, .func fd, _⟩ => some fd.code
  | _ => none
theorem c62_keeps {h h' : Heap} {v : Value} (e : c62 h = some v) (k : ∀ b o, h.get? b = some o → h'.get? b = some o) : c62 h' = some v := by
  unfold c62 at e ⊢
  split at e
  · rename_i cl d fd sl ho
    rw [k _ _ ho]
    exact e
  · cases e
noncomputable def asK : List Addr := [3, 35, 36, 45, 61]
noncomputable def HK : Hook where
  α := (List (Option Obj) × Option Obj) × Option Value
  obs := fun s => ((asK.map s.heap.get?, s.heap.get? 57), c62 s.heap)
  val := fun w => (((KK w.params).map fun p => some p.2, some (tabObj #[])), some (.ref 61))
  says := fun w h => ((KK w.params).In h ∧ h.get? 57 = some (tabObj #[])) ∧ c62 h = some (.ref 61)
  of := fun w s x => by
    obtain ⟨x1, x2⟩ := Prod.mk.inj x
    obtain ⟨x1, x3⟩ := Prod.mk.inj x1
    exact ⟨⟨Frag.in_of (as := asK) rfl x1, x3⟩, x2⟩
  keeps := fun w h h' x k => ⟨⟨x.1.1.keeps k, k _ _ x.1.2⟩, c62_keeps x.2 k⟩
noncomputable def LP (w : World) : Prop := (openEnds treeTable pw0 w 4632).map (fun s => (openSeen vw lo (importedModules pw0.main.body) (fun s => xlAt vw [] s && recOk [] s) true s, HK.obs s)) = some (openGood vw lo, HK.val w)
noncomputable def FG (ie : type_of% @importEnds) (fm : type_of% @fenceModules?) (tr : type_of% @topRun) (tt : type_of% treeTable) (nm : type_of% @Heap.nsMap) (im : type_of% @importedModules) (os : type_of% @openSeen) (w : World) : Prop :=
  ((((ie tt (opening pw0) w 4632 (start (opening pw0)).1 (start (opening pw0)).2).bind (fm pw0)).bind fun s₀ =>
    match s₀.heap.isNs mainGlobals && s₀.gens.size == 0 with
    | true => (tr tt pw0 w s₀.heap.objs.size (nm s₀.heap mainGlobals "__annotations__") 4632 s₀ (topStub pw0)).bind fun s₁ => match staticsOk (im pw0.main.body) s₀.heap s₁.heap && namesBound pw0 s₁.heap && gensDone s₁ && laidKept s₀.heap s₁.heap with
      | true => some s₁
      | false => none
    | false => none).map (fun s => (os vw lo (im pw0.main.body) (fun s => xlAt vw [] s && recOk [] s) true s, HK.obs s))) = some (openGood vw lo, HK.val w)
theorem lp_fg (w : World) : LP w = FG importEnds fenceModules? topRun treeTable Heap.nsMap importedModules openSeen w := rfl
noncomputable def FT : World → Prop := FG PySem.W.Fast.tw10274390034422433532 PySem.W.Fast.tw14289696077712309145 PySem.W.Fast.tw14082659384304107361 PySem.W.Fast.tw14364793385576792824 PySem.W.Fast.tw8920871248978507458 PySem.W.Fast.tw5923862056798008813 PySem.W.Fast.tw4187177175401517315
theorem fg_tw (w : World) : LP w = FT w := by
  rw [lp_fg]
  unfold FT
  rw [← PySem.W.Fast.te10274390034422433532, ← PySem.W.Fast.te14289696077712309145, ← PySem.W.Fast.te14082659384304107361, ← PySem.W.Fast.te14364793385576792824, ← PySem.W.Fast.te8920871248978507458, ← PySem.W.Fast.te5923862056798008813, ← PySem.W.Fast.te4187177175401517315]
theorem ft00 (w : World) : FT ((w.withFollow "special-get-raises" false).withFollow "comprehension-iter-twice" false) := by
  unfold FT FG
  kernel_rfl
theorem ft01 (w : World) : FT ((w.withFollow "special-get-raises" false).withFollow "comprehension-iter-twice" true) := by
  unfold FT FG
  kernel_rfl
theorem ft10 (w : World) : FT ((w.withFollow "special-get-raises" true).withFollow "comprehension-iter-twice" false) := by
  unfold FT FG
  kernel_rfl
theorem ft11 (w : World) : FT ((w.withFollow "special-get-raises" true).withFollow "comprehension-iter-twice" true) := by
  unfold FT FG
  kernel_rfl
theorem left_all : LeftO pw0 vw lo (fun s => xlAt vw [] s && recOk [] s) HK.obs HK.val 4632 := fun w => by
  show LP w
  rw [fg_tw]
  revert w
  refine byRow2 "comprehension-iter-twice" (P := FT) (fun w => ?_) (fun w => ?_)
  · revert w
    exact byRow2 "special-get-raises" (P := fun w => FT (w.withFollow "comprehension-iter-twice" false)) ft00 ft10
  · revert w
    exact byRow2 "special-get-raises" (P := fun w => FT (w.withFollow "comprehension-iter-twice" true)) ft01 ft11
end Mine
namespace Mine
open PySem PySem.W PySem.Calls PyProof.Rows
theorem runs_toks {M : Model} {Γ : Ctx} {p : Pos} {t : Sem Fin} {fs : List Frame} {s s' : Shared} {e : End} (h : Runs M Γ p t fs s e s') : s.toks ≤ s'.toks := by
  induction h with
  | done | raise | yield => exact Nat.le_refl _
  | again _ _ ih | rule _ ih | «at» _ ih | load _ _ ih | update _ _ ih | loadIfAlive _ ih | point _ ih | alloc _ ih | ask _ ih | choose _ _ ih | os _ ih | handled _ ih | genState _ _ ih | stack _ ih | thread _ ih | newGen _ ih
  | callSusp _ ih | resumeJustStarted _ _ _ ih | resumeThrowFresh _ _ ih | resumeRunning _ _ ih | resumeFinished _ _ ih | segSuspOut _ _ ih => exact ih
  | fresh _ ih => exact Nat.le_of_succ_le ih
  | call _ _ i j | segRet _ _ i j | segGen _ _ i j => exact Nat.le_trans i j
  | resumeFresh _ _ _ _ i j | resumeSuspended _ _ _ _ i j | segSuspGen _ _ _ _ i j => exact Nat.le_trans i j
theorem wakes_toks {M : Model} {Γ : Ctx} {p : Pos} {g : Nat} {r : Resume} {s s' : Shared} {res : GenResult} (h : Wakes M Γ p g r s res s') : s.toks ≤ s'.toks := by
  unfold Wakes at h
  split at h
  · exact h.elim
  · split at h
    · obtain ⟨e, s₁, h1, _, _, rfl⟩ := h; have q := runs_toks h1; exact q
    · obtain ⟨_, rfl⟩ := h; exact Nat.le_refl _
    · obtain ⟨_, rfl⟩ := h; exact Nat.le_refl _
  · obtain ⟨e, s₁, h1, _, _, rfl⟩ := h; have q := runs_toks h1; exact q
  · obtain ⟨_, rfl⟩ := h; exact Nat.le_refl _
  · obtain ⟨_, rfl⟩ := h; exact Nat.le_refl _
theorem wp_toks {α : Type} {M : Model} {Γ : Ctx} {n : Nat} {Q : α → Pos → Shared → Prop} {E : Value → Pos → Shared → Prop} (t : Sem α) : ∀ {p : Pos} {s : Shared}, n ≤ s.toks → Sem.wp M Γ t Q E p s →
    Sem.wp M Γ t (fun a p' s' => n ≤ s'.toks ∧ Q a p' s') (fun e p' s' => n ≤ s'.toks ∧ E e p' s') p s := by
  induction t with
  | pure x => exact fun hn h => ⟨hn, h⟩
  | raise v => exact fun hn h => ⟨hn, h⟩
  | unsupported | finish | yield | fork | await | register => exact fun _ h => h
  | rule _ k ih | «at» _ k ih | alloc _ k ih | loadIfAlive _ k ih | point _ k ih | ask k ih | os _ _ k ih | handled _ k ih | newGen _ k ih | stack k ih | thread k ih => exact fun hn h => ih _ hn h
  | fresh k ih => exact fun hn h => ih _ (Nat.le_succ_of_le hn) h
  | load a _ k ih | genState a k ih => exact fun hn ⟨o, ho, h⟩ => ⟨o, ho, ih _ hn h⟩
  | update a _ f k ih | choose _ _ k ih => exact fun hn ⟨ha, h⟩ => ⟨ha, ih _ hn h⟩
  | call c h g l k ih => exact fun hn ⟨r, s', h1, h2⟩ => ⟨r, s', h1, ih _ (Nat.le_trans hn (runs_toks h1)) h2⟩
  | resume g r l k ih => exact fun hn ⟨res, s', hw, h⟩ => ⟨res, s', hw, ih _ (Nat.le_trans hn (wakes_toks hw)) h⟩
theorem wpAny_up {α : Type} {M : Model} {A : Around} {Q : α → Shared → Prop} {E : Value → Shared → Prop} {t : Sem α} {s : Shared}
    (h : wpAny M A t (fun v s' => s.toks ≤ s'.toks → Q v s') (fun e s' => s.toks ≤ s'.toks → E e s') s) : wpAny M A t Q E s := fun Γ p hΓ =>
  Sem.wp_mono M Γ t (fun _ _ _ x => x.2 x.1) (fun _ _ _ x => x.2 x.1) p s (wp_toks t (Nat.le_refl _) (h Γ p hΓ))
theorem wpAny_mon {α : Type} {M : Model} {A : Around} {Q : α → Shared → Prop} {E : Value → Shared → Prop} {t : Sem α} {s : Shared}
    (h : wpAny M A t Q E s) : wpAny M A t (fun v s' => s.toks ≤ s'.toks ∧ Q v s') (fun e s' => s.toks ≤ s'.toks ∧ E e s') s := fun Γ p hΓ => wp_toks t (Nat.le_refl _) (h Γ p hΓ)
end Mine
namespace Mine
open PySem PySem.W PySem.Calls PyProof.Rows
inductive AV where
  | un | none | bool (b : Bool) | int (i : Int) | str (s : List Nat) | tup (l : List AV) | lst (l : List AV) | own (a : Addr) | val (v : Value) | rng (a b c : Int) | app (a : Addr)
noncomputable abbrev tupOf (its : Array Value) (n : Nat) : Obj := { cls := .type "tuple", data := .seq its n }
noncomputable abbrev stv (x : List Nat) : Str := ⟨x.toArray⟩
noncomputable abbrev tabA : Addr := 57
noncomputable abbrev codeA : Addr := 61
mutual
inductive VR (h : Heap) (Z : Addr → Prop) : Value → AV → Prop
  | un (v) : VR h Z v .un
  | none : VR h Z .none .none
  | bool (b) : VR h Z (.bool b) (.bool b)
  | int (i t) : VR h Z (.int i t) (.int i)
  | str (x t) : VR h Z (.str (stv x) t) (.str x)
  | tup {a vs n ds} : Z a → h.get? a = some (tupOf vs.toArray n) → VRs h Z vs ds → VR h Z (.ref a) (.tup ds)
  | lst {a vs n ds} : Z a → h.get? a = some (listOf vs.toArray n) → VRs h Z vs ds → VR h Z (.ref a) (.lst ds)
  | own (a) : VR h Z (.ref a) (.own a)
  | val (v) : VR h Z v (.val v)
  | rng {x a b c t u v} : Z x → IsRange h x a b c t u v → VR h Z (.ref x) (.rng a b c)
  | app {m o vs} (a) : Z m → h.get? m = some o → o.cls = .type "builtin_function_or_method" → o.data = .fields vs → vs[0]? = some (.builtin "list.append") → vs[1]? = some (.ref a) → VR h Z (.ref m) (.app a)
inductive VRs (h : Heap) (Z : Addr → Prop) : List Value → List AV → Prop
  | nil : VRs h Z [] []
  | cons {v vs d ds} : VR h Z v d → VRs h Z vs ds → VRs h Z (v :: vs) (d :: ds)
end
noncomputable def Le (h : Heap) (Z : Addr → Prop) (h' : Heap) (Z' : Addr → Prop) : Prop := ∀ a, Z a → Z' a ∧ ∀ o, h.get? a = some o → h'.get? a = some o
theorem Le.refl (h : Heap) (Z) : Le h Z h Z := fun _ z => ⟨z, fun _ e => e⟩
theorem Le.trans {h h' h'' : Heap} {Z Z' Z''} (x : Le h Z h' Z') (y : Le h' Z' h'' Z'') : Le h Z h'' Z'' :=
  fun a z => ⟨(y a (x a z).1).1, fun o e => (y a (x a z).1).2 o ((x a z).2 o e)⟩
theorem Le.of_keep {h h' : Heap} {Z} (k : ∀ a o, h.get? a = some o → h'.get? a = some o) : Le h Z h' Z := fun a z => ⟨z, fun o e => k a o e⟩
theorem VR.mono {h h' : Heap} {Z Z'} (L : Le h Z h' Z') {v : Value} {a : AV} (V : VR h Z v a) : VR h' Z' v a :=
  VR.rec (motive_1 := fun v a _ => VR h' Z' v a) (motive_2 := fun vs as _ => VRs h' Z' vs as) (fun v => .un v) .none (fun b => .bool b) (fun i t => .int i t) (fun x t => .str x t) (fun z e _ r => .tup (L _ z).1 ((L _ z).2 _ e) r) (fun z e _ r => .lst (L _ z).1 ((L _ z).2 _ e) r)
    (fun a => .own a) (fun v => .val v) (fun z e => .rng (L _ z).1 ((L _ z).2 _ e)) (fun a z e h1 h2 h3 h4 => .app a (L _ z).1 ((L _ z).2 _ e) h1 h2 h3 h4) .nil (fun _ _ r rs => .cons r rs) V
theorem VRs.mono {h h' : Heap} {Z Z'} (L : Le h Z h' Z') {vs : List Value} {as : List AV} (V : VRs h Z vs as) : VRs h' Z' vs as :=
  VRs.rec (motive_1 := fun v a _ => VR h' Z' v a) (motive_2 := fun vs as _ => VRs h' Z' vs as) (fun v => .un v) .none (fun b => .bool b) (fun i t => .int i t) (fun x t => .str x t) (fun z e _ r => .tup (L _ z).1 ((L _ z).2 _ e) r) (fun z e _ r => .lst (L _ z).1 ((L _ z).2 _ e) r)
    (fun a => .own a) (fun v => .val v) (fun z e => .rng (L _ z).1 ((L _ z).2 _ e)) (fun a z e h1 h2 h3 h4 => .app a (L _ z).1 ((L _ z).2 _ e) h1 h2 h3 h4) .nil (fun _ _ r rs => .cons r rs) V
noncomputable def VR.Is (h : Heap) (Z : Addr → Prop) (v : Value) : AV → Prop
  | .un => True
  | .none => v = .none
  | .bool b => v = .bool b
  | .int i => ∃ t, v = .int i t
  | .str x => ∃ t, v = .str (stv x) t
  | .tup ds => ∃ a vs n, v = .ref a ∧ Z a ∧ h.get? a = some (tupOf vs.toArray n) ∧ VRs h Z vs ds
  | .lst ds => ∃ a vs n, v = .ref a ∧ Z a ∧ h.get? a = some (listOf vs.toArray n) ∧ VRs h Z vs ds
  | .own a => v = .ref a
  | .val w => v = w
  | .rng a b c => ∃ x t u y, v = .ref x ∧ Z x ∧ IsRange h x a b c t u y
  | .app _ => True
section
variable {h : Heap} {Z : Addr → Prop} {v : Value}
theorem VR.inv {a : AV} (V : VR h Z v a) : VR.Is h Z v a := by
  cases V with
  | un => trivial
  | none => exact rfl
  | bool b => exact rfl
  | int i t => exact ⟨t, rfl⟩
  | str x t => exact ⟨t, rfl⟩
  | tup z e r => exact ⟨_, _, _, rfl, z, e, r⟩
  | lst z e r => exact ⟨_, _, _, rfl, z, e, r⟩
  | own a => exact rfl
  | val w => exact rfl
  | rng z e => exact ⟨_, _, _, _, rfl, z, e⟩
  | app => trivial
theorem VR.inone (V : VR h Z v .none) : v = .none := V.inv
theorem VR.ibool {b : Bool} (V : VR h Z v (.bool b)) : v = .bool b := V.inv
theorem VR.iint {i : Int} (V : VR h Z v (.int i)) : ∃ t, v = .int i t := V.inv
theorem VR.istr {x : List Nat} (V : VR h Z v (.str x)) : ∃ t, v = .str (stv x) t := V.inv
theorem VR.iown {a : Addr} (V : VR h Z v (.own a)) : v = .ref a := V.inv
theorem VR.ival {w : Value} (V : VR h Z v (.val w)) : v = w := V.inv
theorem VR.irng {a b c : Int} (V : VR h Z v (.rng a b c)) : ∃ x t u y, v = .ref x ∧ Z x ∧ IsRange h x a b c t u y := V.inv
theorem VR.itup {ds : List AV} (V : VR h Z v (.tup ds)) : ∃ a vs n, v = .ref a ∧ Z a ∧ h.get? a = some (tupOf vs.toArray n) ∧ VRs h Z vs ds := V.inv
theorem VR.ilst {ds : List AV} (V : VR h Z v (.lst ds)) : ∃ a vs n, v = .ref a ∧ Z a ∧ h.get? a = some (listOf vs.toArray n) ∧ VRs h Z vs ds := V.inv
noncomputable def VRs.Is (h : Heap) (Z : Addr → Prop) (vs : List Value) : List AV → Prop
  | [] => vs = []
  | d :: ds => ∃ v r, vs = v :: r ∧ VR h Z v d ∧ VRs h Z r ds
theorem VRs.inv {vs : List Value} {ds : List AV} (V : VRs h Z vs ds) : VRs.Is h Z vs ds := by
  cases V with
  | nil => exact rfl
  | cons V r => exact ⟨_, _, rfl, V, r⟩
theorem VRs.inil {vs : List Value} (V : VRs h Z vs []) : vs = [] := V.inv
theorem VRs.icons {vs : List Value} {d : AV} {ds : List AV} (V : VRs h Z vs (d :: ds)) : ∃ v r, vs = v :: r ∧ VR h Z v d ∧ VRs h Z r ds := V.inv
theorem VRs.i1 {vs : List Value} {d : AV} (V : VRs h Z vs [d]) : ∃ v, vs = [v] ∧ VR h Z v d := by
  obtain ⟨v, r, rfl, V1, R⟩ := V.icons
  obtain rfl := R.inil
  exact ⟨v, rfl, V1⟩
theorem VRs.i2 {vs : List Value} {d e : AV} (V : VRs h Z vs [d, e]) : ∃ v w, vs = [v, w] ∧ VR h Z v d ∧ VR h Z w e := by
  obtain ⟨v, r, rfl, V1, R⟩ := V.icons
  obtain ⟨w, rfl, W⟩ := R.i1
  exact ⟨v, w, rfl, V1, W⟩
theorem VRs.i3 {vs : List Value} {d e f : AV} (V : VRs h Z vs [d, e, f]) : ∃ v w x, vs = [v, w, x] ∧ VR h Z v d ∧ VR h Z w e ∧ VR h Z x f := by
  obtain ⟨v, r, rfl, V1, R⟩ := V.icons
  obtain ⟨w, x, rfl, W, X⟩ := R.i2
  exact ⟨v, w, x, rfl, V1, W, X⟩
end
section
variable {h : Heap} {Z : Addr → Prop} {vs ws : List Value} {as bs : List AV}
theorem VRs.length {vs as} (r : VRs h Z vs as) : vs.length = as.length := by
  induction as generalizing vs with
  | nil => obtain rfl := r.inil; rfl
  | cons a as ih =>
    obtain ⟨v, w, rfl, V, q⟩ := r.icons
    rw [List.length_cons, List.length_cons, ih q]
theorem VRs.append {vs ws as bs} (r : VRs h Z vs as) (k : VRs h Z ws bs) : VRs h Z (vs ++ ws) (as ++ bs) := by
  induction as generalizing vs with
  | nil => obtain rfl := r.inil; exact k
  | cons a as ih =>
    obtain ⟨v, w, rfl, V, q⟩ := r.icons
    exact .cons V (ih q)
theorem VRs.get {vs as} (r : VRs h Z vs as) {k : Nat} {a : AV} (e : as[k]? = some a) : ∃ v, vs[k]? = some v ∧ VR h Z v a := by
  induction as generalizing vs k with
  | nil => rw [List.getElem?_nil] at e; cases e
  | cons b as ih =>
    obtain ⟨v, w, rfl, V, q⟩ := r.icons
    cases k with
    | zero => rw [List.getElem?_cons_zero] at e; cases e; exact ⟨v, rfl, V⟩
    | succ k => rw [List.getElem?_cons_succ] at e ⊢; exact ih q e
theorem VRs.take {vs as} (r : VRs h Z vs as) (n : Nat) : VRs h Z (vs.take n) (as.take n) := by
  induction as generalizing vs n with
  | nil => obtain rfl := r.inil; rw [List.take_nil, List.take_nil]; exact .nil
  | cons b as ih =>
    obtain ⟨v, w, rfl, V, q⟩ := r.icons
    cases n with
    | zero => exact .nil
    | succ n => exact .cons V (ih q n)
theorem VRs.drop {vs as} (r : VRs h Z vs as) (n : Nat) : VRs h Z (vs.drop n) (as.drop n) := by
  induction as generalizing vs n with
  | nil => obtain rfl := r.inil; rw [List.drop_nil, List.drop_nil]; exact .nil
  | cons b as ih =>
    obtain ⟨v, w, rfl, V, q⟩ := r.icons
    cases n with
    | zero => exact .cons V q
    | succ n => exact ih q n
theorem VRs.set {vs as} (r : VRs h Z vs as) {v a} (y : VR h Z v a) (n : Nat) : VRs h Z (vs.set n v) (as.set n a) := by
  induction as generalizing vs n with
  | nil => obtain rfl := r.inil; exact .nil
  | cons b as ih =>
    obtain ⟨u, w, rfl, V, q⟩ := r.icons
    cases n with
    | zero => exact .cons y q
    | succ n => exact .cons V (ih q n)
theorem VRs.one {v a} (x : VR h Z v a) : VRs h Z [v] [a] := .cons x .nil
end
structure TopCx where
  prog : Program
  w : World
  hb : Heap
  os : OsState
  mg : Str → Option Value
  mb : Str → Option Value
noncomputable def TopCx.reads (T : TopCx) (x : Str) (v : Value) : Prop := T.mg x = some v ∨ (T.mg x = none ∧ T.mb x = some v)
noncomputable abbrev Gl : List (Str × Value) := [
  (Str.ofString "translate", Value.ref 43),
  (Str.ofString "escape", Value.ref 55),
  (Str.ofString "_translate", Value.ref 62),
  (Str.ofString "_join_translated_parts", Value.ref 69),
  (Str.ofString "heappush", Value.ref 76),
  (Str.ofString "heappop", Value.ref 83),
  (Str.ofString "heapreplace", Value.ref 90),
  (Str.ofString "heappushpop", Value.ref 97),
  (Str.ofString "heapify", Value.ref 104),
  (Str.ofString "_siftdown", Value.ref 111),
  (Str.ofString "_siftup", Value.ref 118),
  (Str.ofString "_law_pieces", Value.ref 125),
  (Str.ofString "_law_items", Value.ref 130),
  (Str.ofString "_law_name", Value.ref 135),
  (Str.ofString "_law_sign", Value.ref 142),
  (Str.ofString "_law_set", Value.ref 149),
  (Str.ofString "_law_row", Value.ref 156),
  (Str.ofString "_law_fits", Value.ref 161),
  (Str.ofString "_law_runs", Value.ref 168),
  (Str.ofString "_law_at", Value.ref 173),
  (Str.ofString "_law_reads", Value.ref 178),
  (Str.ofString "_law_out", Value.ref 185),
  (Str.ofString "_law_first", Value.ref 192),
  (Str.ofString "_law_store", Value.ref 197),
  (Str.ofString "_law_means", Value.ref 204),
  (Str.ofString "_law_takes", Value.ref 211),
  (Str.ofString "_law_put", Value.ref 216),
  (Str.ofString "_law_plain", Value.ref 221),
  (Str.ofString "_twin_re_1", Value.ref 36), (Str.ofString "_special_chars_map", Value.ref 45),
  (Str.ofString "len", Value.builtin "len"), (Str.ofString "range", Value.type "range"), (Str.ofString "object", Value.type "object"), (Str.ofString "isinstance", Value.builtin "isinstance"), (Str.ofString "str", Value.type "str"), (Str.ofString "reversed", Value.type "reversed"), (Str.ofString "IndexError", Value.type "IndexError")]
noncomputable abbrev FL : List (Addr × Nat × List Str) := [
  (43, 3, ["pat"]),
  (55, 6, ["pattern"]),
  (62, 8, ["pat", "STAR", "QUESTION_MARK"]),
  (69, 9, ["inp", "STAR"]),
  (76, 11, ["heap", "item"]),
  (83, 12, ["heap"]),
  (90, 13, ["heap", "item"]),
  (97, 14, ["heap", "item"]),
  (104, 15, ["x"]),
  (111, 16, ["heap", "startpos", "pos"]),
  (118, 17, ["heap", "pos"]),
  (125, 19, []),
  (130, 20, ["x"]),
  (135, 21, ["x"]),
  (142, 22, ["text", "k"]),
  (149, 23, ["text", "k"]),
  (156, 24, ["text"]),
  (161, 25, ["item", "sign"]),
  (168, 26, ["text"]),
  (173, 27, ["run", "name", "k"]),
  (178, 28, ["runs", "name"]),
  (185, 29, ["heap", "kind", "rule"]),
  (192, 30, ["heap", "name"]),
  (197, 31, ["deeds"]),
  (204, 32, ["item", "sign"]),
  (211, 33, ["items", "name"]),
  (216, 34, ["row", "rule"]),
  (221, 35, ["deeds"])]
noncomputable def fbody (i : Nat) : List Stmt := match PySem.Challenge.pw_in0305_01.main.body.getD i default with
  | .FunctionDef _ _ b .. => b
  | _ => []
noncomputable def fscope (i : Nat) : Scope := match PySem.Challenge.pw_in0305_01.main.body.getD i default with
  | .FunctionDef _ _ _ _ _ _ sc .. => sc
  | _ => default
noncomputable def FnObj (T : TopCx) (f : Addr) (i : Nat) (params : List Str) : Prop :=
  ∃ fd : FuncData, (∃ o, T.hb.get? f = some o ∧ o.data = .func fd) ∧ T.hb.CodeRec fd.code fd.qualname ∧ fd.body = .stmts (fbody i) ∧ fd.scope = fscope i ∧ fd.globals = mainGlobals ∧ fd.builtins = builtinsNs ∧ fd.closure = [] ∧
    ∀ vs, vs.length = params.length → bindArgs fd ⟨vs, []⟩ = pure (params.zip vs)
structure TopOk (T : TopCx) : Prop where
  gl : ∀ p ∈ Gl, T.reads p.1 p.2
  fns : ∀ p ∈ FL, FnObj T p.1 p.2.1 p.2.2
  g : T.hb.Ns mainGlobals T.mg
  b : T.hb.Ns builtinsNs T.mb
  nolimit : T.hb.NoLimit
  notab : T.hb.get? tabA = none
  code : ∃ o fd, T.hb.get? 62 = some o ∧ o.data = .func fd ∧ fd.code = .ref codeA
  chd : CodeHd T.hb codeA tabA
  bat : T.hb.BuiltinsAt T.mg tabA
  mgt : mainGlobals ≠ tabA
  map : ∃ f : Int → Option Value, T.hb.MapOf (intKind T.prog T.w) 45 f ∧ (∃ t, f 94 = some (.str (stv [92, 94]) t)) ∧ (∃ t, f 92 = some (.str (stv [92, 92]) t)) ∧ f 97 = none ∧ f 33 = none
  pat : T.hb.get? 36 = some { cls := .type "re.Pattern", data := .fields #[.str (Str.ofString "([&~|])") 285, .int 32 320, .int 1 0, .none, .none, .ref 35, .int 0 0] }
  pcode : T.hb.get? 35 = some (tupOf #[.int 14 0, .int 14 0, .int 4 0, .int 1 0, .int 1 0, .int 9 0, .int 0 0, .int 64 0, .int 0 0, .int 1342177280 0, .int 0 0, .int 0 0, .int 0 0,
    .int 0 0, .int 0 0, .int 17 0, .int 0 0, .int 13 0, .int 11 0, .int 9 0, .int 0 0, .int 64 0, .int 0 0, .int 1342177280 0, .int 0 0, .int 0 0, .int 0 0, .int 0 0, .int 0 0, .int 17 0, .int 1 0, .int 1 0] 0)
structure Base where
  h : Heap
  Z : Addr → Prop
  D : Addr → Prop
noncomputable def Nd (o : Obj) : Prop := ∀ es ep, o.data ≠ .dict es ep
noncomputable def KeepO (o o' : Obj) : Prop := o' = o ∨ ((∃ es ep, o.data = .dict es ep) ∧ ∃ sl, o' = { o with slots := sl })
theorem KeepO.refl (o : Obj) : KeepO o o := .inl rfl
theorem KeepO.data {o o' : Obj} (k : KeepO o o') : o'.data = o.data := by
  rcases k with rfl | ⟨_, sl, rfl⟩ <;> rfl
theorem KeepO.trans {a b c : Obj} (x : KeepO a b) (y : KeepO b c) : KeepO a c := by
  rcases x with rfl | ⟨⟨es, ep, hd⟩, sl, rfl⟩
  · exact y
  · rcases y with rfl | ⟨_, sl', rfl⟩
    · exact .inr ⟨⟨es, ep, hd⟩, sl, rfl⟩
    · exact .inr ⟨⟨es, ep, hd⟩, sl', rfl⟩
theorem KeepO.eq {a b : Obj} (x : KeepO a b) (n : Nd a) : b = a := by
  rcases x with rfl | ⟨⟨es, ep, hd⟩, _⟩
  · rfl
  · exact absurd hd (n es ep)
theorem Nd.list {xs : Array Value} {n : Nat} : Nd (listOf xs n) := fun _ _ h => nomatch h
noncomputable def FrB0 (T : TopCx) (A : Around) (B : Base) : Prop := ∃ l, A.frames = some l ∧ ∀ env ∈ l, env.scope.kind ≠ .module ∧ ∃ L, env.frame = some L ∧ T.hb.get? L = none ∧ ¬ B.D L ∧ L ≠ tabA ∧ ∃ o es ep, B.h.get? L = some o ∧ o.data = .dict es ep
noncomputable def FrB (T : TopCx) (A : Around) (lo : Addr) (B : Base) : Prop :=
  ∃ l, A.frames = some l ∧ ∀ env ∈ l, env.scope.kind ≠ .module ∧ ∃ L, env.frame = some L ∧ T.hb.get? L = none ∧ (L = lo ∨ (¬ B.D L ∧ L ≠ tabA ∧ ∃ o es ep, B.h.get? L = some o ∧ o.data = .dict es ep))
theorem FrB0.frB {T : TopCx} {A : Around} {B : Base} (x : FrB0 T A B) (lo : Addr) : FrB T A lo B :=
  let ⟨l, h, k⟩ := x; ⟨l, h, fun env he => let ⟨a, L, b, c, d⟩ := k env he; ⟨a, L, b, c, .inr d⟩⟩
structure Hp (T : TopCx) (B : Base) (s : Shared) (Z : Addr → Prop) (μ : List (Addr × List AV)) : Prop where
  top : ∀ a o, T.hb.get? a = some o → s.heap.get? a = some o
  tab : ∃ ps, s.heap.get? tabA = some (tabObj ps) ∧ TriplesOk ps.toList
  os : s.os = T.os
  gens : AllBare s.gens
  keep : ∀ a o, B.h.get? a = some o → ¬ B.D a → a ≠ tabA → ∃ o', s.heap.get? a = some o' ∧ KeepO o o'
  z0 : ∀ a, B.Z a → Z a
  zn : ∀ a, Z a → B.Z a ∨ B.D a ∨ B.h.get? a = none
  zok : ∀ a, Z a → (∃ o, s.heap.get? a = some o ∧ Nd o) ∧ a ≠ tabA
  own : ∀ p ∈ μ, ¬ Z p.1 ∧ (T.hb.get? p.1 = none ∧ p.1 ≠ tabA) ∧ (B.D p.1 ∨ B.h.get? p.1 = none) ∧ ∃ vs n, s.heap.get? p.1 = some (listOf vs.toArray n) ∧ VRs s.heap Z vs p.2
  nd : (μ.map (·.1)).Nodup
  tk : 0 < s.toks
structure FnS where
  names : List (Str × Bool)
  globs : List (Str × Value)
  ro : Bool := false
  own : List Str := []
noncomputable def FnS.rw (S : FnS) (x : Str) : Prop := S.ro = false ∨ x ∈ S.own
structure Cx (T : TopCx) (S : FnS) where
  A : Around
  env : Env
  d : Nat
structure Cx.Ok {T : TopCx} {S : FnS} (C : Cx T S) : Prop where
  top : TopOk T
  hh : C.A.handled = none
  depth : C.A.depth + C.d < recursionLimit
  units : C.A.units + 20 * C.d + 100 < cLine
  kind : C.env.scope.kind = .function
  glob : C.env.globals = mainGlobals
  blt : C.env.builtins = builtinsNs
  names : ∀ p ∈ S.names, (p.2 = false → C.env.kindOf p.1 = some .local) ∧ (p.2 = true → C.env.kindOf p.1 = some .cell ∧ ∃ c, C.env.cells.lookup p.1 = some c)
  nd : (S.names.map (·.1)).Nodup
  globs : ∀ p ∈ S.globs, C.env.kindOf p.1 = some .globalImplicit ∧ T.reads p.1 p.2
  inj : ∀ x y c, C.env.cells.lookup x = some c → C.env.cells.lookup y = some c → x = y
  dbgN : ∀ p ∈ S.names, (p.1 == ("__debug__" : Str)) = false
  dbgG : ∀ p ∈ S.globs, (p.1 == ("__debug__" : Str)) = false
structure Own0 (T : TopCx) (Z : Addr → Prop) (μ : List (Addr × List AV)) (a : Addr) : Prop where
  big : T.hb.get? a = none ∧ a ≠ tabA
  nz : ¬ Z a
  nm : ∀ p ∈ μ, p.1 ≠ a
structure Own1 (T : TopCx) (B : Base) (Z : Addr → Prop) (μ : List (Addr × List AV)) (a : Addr) : Prop where
  big : T.hb.get? a = none ∧ a ≠ tabA
  nz : ¬ Z a
  nm : ∀ p ∈ μ, p.1 ≠ a
  new : B.D a ∨ B.h.get? a = none
structure Rp {T : TopCx} {S : FnS} (C : Cx T S) (B : Base) (s : Shared) (Z : Addr → Prop) (σ : List (Str × AV)) (μ : List (Addr × List AV)) : Prop extends Hp T B s Z μ where
  keys : σ.map (·.1) = S.names.map (·.1)
  frs : FrB T C.A C.env.locals B
  loc : Own1 T B Z μ C.env.locals
  ns : ∃ m, s.heap.Ns C.env.locals m ∧ ∀ x a, (x, a) ∈ σ → (x, false) ∈ S.names → a = .un ∨ ∃ v, m x = some v ∧ VR s.heap Z v a
  cel : ∀ x c, C.env.cells.lookup x = some c → Own0 T Z μ c ∧ (S.rw x → B.D c ∨ B.h.get? c = none) ∧ c ≠ C.env.locals ∧ ∃ v₀, s.heap.IsCell c v₀ ∧ ∀ a, (x, a) ∈ σ → (x, true) ∈ S.names → a = .un ∨ ∃ v, v₀ = some v ∧ VR s.heap Z v a
theorem ltne {a b : Nat} (h : a < b) (e : a = b) : False := Nat.lt_irrefl _ (e ▸ h)
theorem lene {a b : Nat} (h : a < b) (k : b ≤ a) : False := Nat.lt_irrefl _ (Nat.lt_of_lt_of_le h k)
section
variable {T : TopCx} {S : FnS} {C : Cx T S} {B : Base} {s s' : Shared} {Z Z' : Addr → Prop} {σ σ' : List (Str × AV)} {μ μ' : List (Addr × List AV)}
theorem Hp.grow (H : Hp T B s Z μ) (k : ∀ a o, s.heap.get? a = some o → s'.heap.get? a = some o) (ho : s'.os = s.os) (hg : AllBare s'.gens) (ht : 0 < s'.toks) : Hp T B s' Z μ where
  top a o e := k a o (H.top a o e)
  tab := let ⟨ps, e, t⟩ := H.tab; ⟨ps, k _ _ e, t⟩
  os := ho.trans H.os
  gens := hg
  tk := ht
  keep a o e h1 h2 := let ⟨o', e', q⟩ := H.keep a o e h1 h2; ⟨o', k a o' e', q⟩
  z0 := H.z0
  zn := H.zn
  zok a z := ⟨let ⟨o, e, q⟩ := (H.zok a z).1; ⟨o, k a o e, q⟩, (H.zok a z).2⟩
  own p hp := let ⟨a, b, c, vs, n, e, r⟩ := H.own p hp; ⟨a, b, c, vs, n, k _ _ e, r.mono (Le.of_keep k)⟩
  nd := H.nd
theorem Rp.grow (R : Rp C B s Z σ μ) (k : ∀ a o, s.heap.get? a = some o → s'.heap.get? a = some o) (ho : s'.os = s.os) (hg : AllBare s'.gens) (ht : 0 < s'.toks) : Rp C B s' Z σ μ where
  toHp := R.toHp.grow k ho hg ht
  keys := R.keys
  frs := R.frs
  loc := R.loc
  ns := by
    obtain ⟨m, hn, r⟩ := R.ns
    exact ⟨m, hn.keeps k, fun x a h1 h2 => (r x a h1 h2).imp id fun ⟨v, e, q⟩ => ⟨v, e, q.mono (Le.of_keep k)⟩⟩
  cel := fun x c e => by
    obtain ⟨h1, h0, h2, v₀, hc, r⟩ := R.cel x c e
    exact ⟨h1, h0, h2, v₀, hc.keeps k, fun a h1 h2 => (r a h1 h2).imp id fun ⟨v, e, q⟩ => ⟨v, e, q.mono (Le.of_keep k)⟩⟩
theorem Rp.toks (R : Rp C B s Z σ μ) (t : Nat) (ht : 0 < t := by exact Nat.succ_pos _) : Rp C B { s with toks := t } Z σ μ :=
  R.grow (s' := { s with toks := t }) (fun _ _ e => e) rfl R.gens ht
theorem Hp.toks (R : Hp T B s Z μ) (t : Nat) (ht : 0 < t := by exact Nat.succ_pos _) : Hp T B { s with toks := t } Z μ :=
  R.grow (s' := { s with toks := t }) (fun _ _ e => e) rfl R.gens ht
theorem Rp.push (R : Rp C B s Z σ μ) (o : Obj) : Rp C B { s with heap := s.heap.push o } Z σ μ :=
  R.grow (s' := { s with heap := s.heap.push o }) (fun _ _ e => Heap.get?_push_of_some o e) rfl R.gens R.tk
theorem Hp.own_lt (H : Hp T B s Z μ) {p} (hp : p ∈ μ) : p.1 < s.heap.objs.size :=
  let ⟨_, _, _, _, _, e, _⟩ := H.own p hp; Heap.lt_size e
theorem Hp.z_lt (H : Hp T B s Z μ) {a} (z : Z a) : a < s.heap.objs.size := let ⟨⟨_, e, _⟩, _⟩ := H.zok a z; Heap.lt_size e
theorem Rp.loc_lt (R : Rp C B s Z σ μ) : C.env.locals < s.heap.objs.size := let ⟨_, hn, _⟩ := R.ns; hn.lt
theorem Rp.cel_lt (R : Rp C B s Z σ μ) {x c} (e : C.env.cells.lookup x = some c) : c < s.heap.objs.size := let ⟨_, _, _, _, hc, _⟩ := R.cel x c e; hc.lt
theorem Hp.fresh (H : Hp T B s Z μ) : (T.hb.get? s.heap.objs.size = none ∧ s.heap.objs.size ≠ tabA) ∧ (B.D s.heap.objs.size ∨ B.h.get? s.heap.objs.size = none) := by
  refine ⟨⟨?_, fun e => ?_⟩, ?_⟩
  · cases q : T.hb.get? s.heap.objs.size with
    | none => rfl
    | some o => exact absurd (Heap.lt_size (H.top _ _ q)) (Nat.lt_irrefl _)
  · obtain ⟨ps, e', _⟩ := H.tab
    rw [← e] at e'
    exact absurd (Heap.lt_size e') (Nat.lt_irrefl _)
  · by_cases hd : B.D s.heap.objs.size
    · exact .inl hd
    · refine .inr ?_
      cases q : B.h.get? s.heap.objs.size with
      | none => rfl
      | some o =>
        have ht : s.heap.objs.size ≠ tabA := fun e => by
          obtain ⟨ps, e', _⟩ := H.tab
          rw [← e] at e'
          exact absurd (Heap.lt_size e') (Nat.lt_irrefl _)
        obtain ⟨o', e', _⟩ := H.keep _ _ q hd ht
        exact absurd (Heap.lt_size e') (Nat.lt_irrefl _)
noncomputable def zAnd (Z : Addr → Prop) (a : Addr) : Addr → Prop := fun b => Z b ∨ b = a
theorem le_zAnd (h : Heap) (Z) (a) : Le h Z h (zAnd Z a) := fun _ z => ⟨.inl z, fun _ e => e⟩
theorem Hp.freeze (H : Hp T B s Z μ) (hb : TopOk T) {a : Addr} {o : Obj} (ho : s.heap.get? a = some o) (hnd : Nd o) (hz : T.hb.get? a = none ∧ a ≠ tabA) (hn : B.D a ∨ B.h.get? a = none) (hm : ∀ p ∈ μ, p.1 ≠ a) : Hp T B s (zAnd Z a) μ where
  top := H.top
  tab := H.tab
  os := H.os
  gens := H.gens
  tk := H.tk
  keep := H.keep
  z0 b z := .inl (H.z0 b z)
  zn b z := z.elim (H.zn b) fun e => .inr (e ▸ hn)
  zok b z := z.elim (H.zok b) fun e => ⟨⟨o, e ▸ ho, hnd⟩, fun q => hz.2 (e.symm.trans q)⟩
  own p hp := let ⟨h1, h2, h3, vs, n, e, r⟩ := H.own p hp; ⟨fun q => q.elim h1 (hm p hp), h2, h3, vs, n, e, r.mono (le_zAnd _ _ _)⟩
  nd := H.nd
theorem Rp.freeze (R : Rp C B s Z σ μ) (hb : TopOk T) {a : Addr} {o : Obj} (ho : s.heap.get? a = some o) (hnd : Nd o) (hz : T.hb.get? a = none ∧ a ≠ tabA) (hn : B.D a ∨ B.h.get? a = none) (hm : ∀ p ∈ μ, p.1 ≠ a)
    (hl : C.env.locals ≠ a) (hc : ∀ x c, C.env.cells.lookup x = some c → c ≠ a) : Rp C B s (zAnd Z a) σ μ where
  toHp := R.toHp.freeze hb ho hnd hz hn hm
  keys := R.keys
  frs := R.frs
  loc := ⟨R.loc.big, fun q => q.elim R.loc.nz hl, R.loc.nm, R.loc.new⟩
  ns := by
    obtain ⟨m, hn, r⟩ := R.ns
    exact ⟨m, hn, fun x a h1 h2 => (r x a h1 h2).imp id fun ⟨v, e, q⟩ => ⟨v, e, q.mono (le_zAnd _ _ _)⟩⟩
  cel := fun x c e => by
    obtain ⟨h1, h0, h2, v₀, hc', r⟩ := R.cel x c e
    exact ⟨⟨h1.big, fun q => q.elim h1.nz (hc x c e), h1.nm⟩, h0, h2, v₀, hc', fun a h1 h2 => (r a h1 h2).imp id fun ⟨v, e, q⟩ => ⟨v, e, q.mono (le_zAnd _ _ _)⟩⟩
theorem Rp.pushZ (R : Rp C B s Z σ μ) (hb : TopOk T) (o : Obj) (hf : o.isFreed = false := by rfl) (hnd : Nd o := by intro _ _ h; cases h) : Rp C B { s with heap := s.heap.push o } (zAnd Z s.heap.objs.size) σ μ :=
  (R.push o).freeze hb (a := s.heap.objs.size) (Heap.get?_push_size _ hf) hnd R.fresh.1 R.fresh.2 (fun p hp e => ltne (R.own_lt hp) e)
    (fun e => ltne R.loc_lt e) (fun x c e q => ltne (R.cel_lt e) q)
theorem le_pushZ (h : Heap) (Z) (o : Obj) (a : Addr) : Le h Z (h.push o) (zAnd Z a) := fun _ z => ⟨.inl z, fun _ e => Heap.get?_push_of_some o e⟩
theorem le_push (h : Heap) (Z) (o : Obj) : Le h Z (h.push o) Z := fun _ z => ⟨z, fun _ e => Heap.get?_push_of_some o e⟩
theorem Hp.ownNew (H : Hp T B s Z μ) {a : Addr} {vs : List Value} {n : Nat} {xs : List AV} (ho : s.heap.get? a = some (listOf vs.toArray n)) (hz : T.hb.get? a = none ∧ a ≠ tabA) (hn : B.D a ∨ B.h.get? a = none) (hm : ∀ p ∈ μ, p.1 ≠ a) (hnz : ¬ Z a) (r : VRs s.heap Z vs xs) : Hp T B s Z ((a, xs) :: μ) where
  top := H.top
  tab := H.tab
  os := H.os
  gens := H.gens
  tk := H.tk
  keep := H.keep
  z0 := H.z0
  zn := H.zn
  zok := H.zok
  own p hp := by
    rcases List.mem_cons.mp hp with rfl | hp
    · exact ⟨hnz, hz, hn, vs, n, ho, r⟩
    · exact H.own p hp
  nd := by
    rw [List.map_cons, List.nodup_cons]
    refine ⟨fun q => ?_, H.nd⟩
    obtain ⟨p, hp, e⟩ := List.mem_map.mp q
    exact hm p hp e
theorem Rp.ownNew (R : Rp C B s Z σ μ) {a : Addr} {vs : List Value} {n : Nat} {xs : List AV} (ho : s.heap.get? a = some (listOf vs.toArray n)) (hz : T.hb.get? a = none ∧ a ≠ tabA) (hn : B.D a ∨ B.h.get? a = none) (hm : ∀ p ∈ μ, p.1 ≠ a) (hnz : ¬ Z a) (r : VRs s.heap Z vs xs)
    (hl : C.env.locals ≠ a) (hc : ∀ x c, C.env.cells.lookup x = some c → c ≠ a) : Rp C B s Z σ ((a, xs) :: μ) where
  toHp := R.toHp.ownNew ho hz hn hm hnz r
  keys := R.keys
  frs := R.frs
  loc := ⟨R.loc.big, R.loc.nz, fun p hp => by
    rcases List.mem_cons.mp hp with rfl | hp
    · exact fun e => hl e.symm
    · exact R.loc.nm p hp, R.loc.new⟩
  ns := R.ns
  cel := fun x c e => by
    obtain ⟨h1, h2, h3⟩ := R.cel x c e
    exact ⟨⟨h1.big, h1.nz, fun p hp => by
      rcases List.mem_cons.mp hp with rfl | hp
      · exact fun e' => hc x c e e'.symm
      · exact h1.nm p hp⟩, h2, h3⟩
theorem Rp.pushOwn (R : Rp C B s Z σ μ) {vs : List Value} {xs : List AV} (r : VRs s.heap Z vs xs) (n : Nat := 0) : Rp C B { s with heap := s.heap.push (listOf vs.toArray n) } Z σ ((s.heap.objs.size, xs) :: μ) :=
  (R.push (listOf vs.toArray n)).ownNew (Heap.get?_push_size _ rfl) R.fresh.1 R.fresh.2 (fun p hp e => ltne (R.own_lt hp) e) (fun z => absurd (R.z_lt z) (Nat.lt_irrefl _)) (r.mono (le_push _ _ _))
    (fun e => ltne R.loc_lt e) (fun x c e q => ltne (R.cel_lt e) q)
theorem Hp.dropOwn {p : Addr × List AV} (H : Hp T B s Z (p :: μ)) : Hp T B s Z μ where
  top := H.top
  tab := H.tab
  os := H.os
  gens := H.gens
  tk := H.tk
  keep := H.keep
  z0 := H.z0
  zn := H.zn
  zok := H.zok
  own q hq := H.own q (.tail _ hq)
  nd := (List.nodup_cons.mp (by simpa using H.nd)).2
theorem Rp.dropOwn {p : Addr × List AV} (R : Rp C B s Z σ (p :: μ)) : Rp C B s Z σ μ where
  toHp := R.toHp.dropOwn
  keys := R.keys
  frs := R.frs
  loc := ⟨R.loc.big, R.loc.nz, fun q hq => R.loc.nm q (.tail _ hq), R.loc.new⟩
  ns := R.ns
  cel := fun x c e => let ⟨h1, h2, h3⟩ := R.cel x c e; ⟨⟨h1.big, h1.nz, fun q hq => h1.nm q (.tail _ hq)⟩, h2, h3⟩
theorem Rp.freezeOwn (hb : TopOk T) {a : Addr} {xs : List AV} (R : Rp C B s Z σ ((a, xs) :: μ)) : Rp C B s (zAnd Z a) σ μ ∧ VR s.heap (zAnd Z a) (.ref a) (.lst xs) := by
  obtain ⟨h1, h2, h3, vs, n, e, r⟩ := R.own _ (.head _)
  refine ⟨R.dropOwn.freeze hb e Nd.list h2 h3 (fun p hp q => ?_) (fun q => R.loc.nm _ (.head _) q.symm) (fun x c ec q => (R.cel x c ec).1.nm _ (.head _) q.symm), .lst (.inr rfl) e (r.mono (le_zAnd _ _ _))⟩
  have := (List.nodup_cons.mp (by simpa using R.nd : (a :: μ.map (·.1)).Nodup)).1
  exact this (List.mem_map.mpr ⟨p, hp, q⟩)
inductive Up {α : Type} (x : α) (β : Type) (b' : β) : List (α × β) → List (α × β) → Prop
  | head {b r} : Up x β b' ((x, b) :: r) ((x, b') :: r)
  | tail {p r r'} : Up x β b' r r' → Up x β b' (p :: r) (p :: r')
theorem Up.keys {α β : Type} {x : α} {b' : β} {l l' : List (α × β)} (u : Up x β b' l l') : l'.map (·.1) = l.map (·.1) := by
  induction u with
  | head => rfl
  | tail u ih => rw [List.map_cons, List.map_cons, ih]
theorem Up.here {α β : Type} {x : α} {b' : β} {l l' : List (α × β)} (u : Up x β b' l l') : x ∈ l.map (·.1) := by
  induction u with
  | head => exact List.mem_cons_self
  | tail u ih => exact List.mem_cons_of_mem _ ih
theorem Up.mem {α β : Type} {x : α} {b' : β} {l l' : List (α × β)} (u : Up x β b' l l') (nd : (l.map (·.1)).Nodup) {y : α} {b : β} (h : (y, b) ∈ l') : (y = x ∧ b = b') ∨ (y ≠ x ∧ (y, b) ∈ l) := by
  induction u with
  | head =>
    rw [List.map_cons, List.nodup_cons] at nd
    rcases List.mem_cons.mp h with e | h
    · exact .inl (Prod.mk.inj e)
    · exact .inr ⟨fun e => nd.1 (List.mem_map.mpr ⟨_, h, e⟩), .tail _ h⟩
  | tail u ih =>
    rw [List.map_cons, List.nodup_cons] at nd
    rcases List.mem_cons.mp h with e | h
    · subst e
      exact .inr ⟨fun e => nd.1 (e ▸ u.here), .head _⟩
    · exact (ih nd.2 h).imp id fun ⟨a, b⟩ => ⟨a, .tail _ b⟩
noncomputable def upd (a : Addr) (xs : List AV) : List (Addr × List AV) → List (Addr × List AV)
  | [] => []
  | (b, l) :: r => if b = a then (b, xs) :: r else (b, l) :: upd a xs r
theorem upd_up {a : Addr} {xs l : List AV} : ∀ {μ : List (Addr × List AV)}, (a, l) ∈ μ → Up a (List AV) xs μ (upd a xs μ)
  | (b, k) :: r, h => by
    unfold upd
    by_cases e : b = a
    · subst e; rw [if_pos rfl]; exact .head
    · rw [if_neg e]
      rcases List.mem_cons.mp h with q | h
      · cases q; exact absurd rfl e
      · exact .tail (upd_up h)
theorem upd_upd {a : Addr} {xs ys : List AV} : ∀ {μ : List (Addr × List AV)}, upd a ys (upd a xs μ) = upd a ys μ
  | [] => rfl
  | (b, k) :: r => by
    by_cases e : b = a
    · subst e; simp [upd]
    · simp [upd, e, upd_upd]
theorem upd_mem {a : Addr} {xs l : List AV} : ∀ {μ : List (Addr × List AV)}, (a, l) ∈ μ → (a, xs) ∈ upd a xs μ
  | (b, k) :: r, h => by
    unfold upd
    by_cases e : b = a
    · subst e; rw [if_pos rfl]; exact .head _
    · rw [if_neg e]
      rcases List.mem_cons.mp h with q | h
      · cases q; exact absurd rfl e
      · exact .tail _ (upd_mem h)
theorem upd_same {a : Addr} {l : List AV} : ∀ {μ : List (Addr × List AV)}, (μ.map (·.1)).Nodup → (a, l) ∈ μ → upd a l μ = μ
  | (b, k) :: r, nd, h => by
    unfold upd
    rw [List.map_cons, List.nodup_cons] at nd
    by_cases e : b = a
    · subst e; rw [if_pos rfl]
      rcases List.mem_cons.mp h with q | h
      · cases q; rfl
      · exact absurd (List.mem_map_of_mem (f := (·.1)) h) nd.1
    · rw [if_neg e]
      rcases List.mem_cons.mp h with q | h
      · cases q; exact absurd rfl e
      · rw [upd_same nd.2 h]
theorem cellExt {h h' : Heap} {a c : Addr} {v : Option Value} (x : h.IsCell c v) (hs : Heap.ExtBut a h h') (hca : c ≠ a) : h'.IsCell c v :=
  let ⟨o, ho, hd⟩ := x; ⟨o, hs c o hca ho, hd⟩
theorem Hp.setOwn (hb : TopOk T) (H : Hp T B s Z μ) {a : Addr} {xs : List AV} {h' : Heap} {vs : List Value} {n : Nat} (U : Up a (List AV) xs μ μ') (hs : Heap.ExtBut a s.heap h')
    (ho : h'.get? a = some (listOf vs.toArray n)) (r : VRs s.heap Z vs xs) : Hp T B { s with heap := h' } Z μ' ∧ Le s.heap Z h' Z := by
  have ha : ¬ Z a ∧ (T.hb.get? a = none ∧ a ≠ tabA) ∧ (B.D a ∨ B.h.get? a = none) := by
    obtain ⟨p, hp, e⟩ := List.mem_map.mp U.here
    obtain ⟨h1, h2, h3, _⟩ := H.own p hp
    exact e ▸ ⟨h1, h2, h3⟩
  have L : Le s.heap Z h' Z := fun b z => ⟨z, fun o e => hs b o (fun q => ha.1 (q ▸ z)) e⟩
  refine ⟨?_, L⟩
  exact {
    top := fun b o e => hs b o (fun q => by rw [q, ha.2.1.1] at e; cases e) (H.top b o e)
    tab := by
      obtain ⟨ps, e, t⟩ := H.tab
      exact ⟨ps, hs tabA _ (fun q => ha.2.1.2 q.symm) e, t⟩
    os := H.os
    gens := H.gens
    tk := H.tk
    keep := fun b o e h1 h2 => let ⟨o', e', k⟩ := H.keep b o e h1 h2; ⟨o', hs b o' (fun q => ha.2.2.elim (fun d => h1 (q ▸ d)) fun l => by rw [q, l] at e; cases e) e', k⟩
    z0 := H.z0
    zn := H.zn
    zok := fun b z => ⟨let ⟨⟨o, e, n⟩, _⟩ := H.zok b z; ⟨o, (L b z).2 o e, n⟩, (H.zok b z).2⟩
    own := fun p hp => by
      rcases U.mem H.nd (y := p.1) (b := p.2) hp with ⟨e1, e2⟩ | ⟨e1, hp⟩
      · rw [e1, e2]
        exact ⟨ha.1, ha.2.1, ha.2.2, vs, n, ho, r.mono L⟩
      · obtain ⟨h1, h2, h3, ws, k, e, q⟩ := H.own p hp
        exact ⟨h1, h2, h3, ws, k, hs _ _ e1 e, q.mono L⟩
    nd := U.keys ▸ H.nd }
theorem Rp.setOwn (hb : TopOk T) (R : Rp C B s Z σ μ) {a : Addr} {xs : List AV} {h' : Heap} {vs : List Value} {n : Nat} (U : Up a (List AV) xs μ μ') (hs : Heap.ExtBut a s.heap h')
    (ho : h'.get? a = some (listOf vs.toArray n)) (r : VRs s.heap Z vs xs) : Rp C B { s with heap := h' } Z σ μ' ∧ Le s.heap Z h' Z := by
  obtain ⟨H, L⟩ := R.toHp.setOwn hb U hs ho r
  have mem : ∀ p ∈ μ', p.1 ∈ μ.map (·.1) := fun p hp => U.keys ▸ List.mem_map_of_mem hp
  have nm : ∀ c, (∀ p ∈ μ, p.1 ≠ c) → ∀ p ∈ μ', p.1 ≠ c := fun c k p hp q => by
    obtain ⟨y, hy, e⟩ := List.mem_map.mp (mem p hp)
    exact k y hy (e.trans q)
  have ha : a ∈ μ.map (·.1) := U.here
  have na : ∀ c, (∀ p ∈ μ, p.1 ≠ c) → c ≠ a := fun c k q => by
    obtain ⟨y, hy, e⟩ := List.mem_map.mp ha
    exact k y hy (e.trans q.symm)
  refine ⟨{ toHp := H, keys := R.keys, frs := R.frs, loc := ⟨R.loc.big, R.loc.nz, nm _ R.loc.nm, R.loc.new⟩, ns := ?_, cel := fun x c e => ?_ }, L⟩
  · obtain ⟨m, hn, q⟩ := R.ns
    exact ⟨m, hn.extBut hs (na _ R.loc.nm), fun x a h1 h2 => (q x a h1 h2).imp id fun ⟨v, e, q⟩ => ⟨v, e, q.mono L⟩⟩
  · obtain ⟨h1, h0, h2, v₀, hc, q⟩ := R.cel x c e
    exact ⟨⟨h1.big, h1.nz, nm _ h1.nm⟩, h0, h2, v₀, cellExt hc hs (na _ h1.nm), fun a h1 h2 => (q a h1 h2).imp id fun ⟨v, e, q⟩ => ⟨v, e, q.mono L⟩⟩
theorem Hp.off (hb : TopOk T) (H : Hp T B s Z μ) {t : Addr} {h' : Heap} (ht : Own1 T B Z μ t) (hs : Heap.ExtBut t s.heap h') : Hp T B { s with heap := h' } Z μ ∧ Le s.heap Z h' Z := by
  have L : Le s.heap Z h' Z := fun b z => ⟨z, fun o e => hs b o (fun q => ht.nz (q ▸ z)) e⟩
  refine ⟨?_, L⟩
  exact {
    top := fun b o e => hs b o (fun q => by rw [q, ht.big.1] at e; cases e) (H.top b o e)
    tab := by
      obtain ⟨ps, e, t⟩ := H.tab
      exact ⟨ps, hs tabA _ (fun q => ht.big.2 q.symm) e, t⟩
    os := H.os
    gens := H.gens
    tk := H.tk
    keep := fun b o e h1 h2 => let ⟨o', e', k⟩ := H.keep b o e h1 h2; ⟨o', hs b o' (fun q => ht.new.elim (fun d => h1 (q ▸ d)) fun l => by rw [q, l] at e; cases e) e', k⟩
    z0 := H.z0
    zn := H.zn
    zok := fun b z => ⟨let ⟨⟨o, e, n⟩, _⟩ := H.zok b z; ⟨o, (L b z).2 o e, n⟩, (H.zok b z).2⟩
    own := fun p hp => by
      obtain ⟨h1, h2, h3, ws, k, e, q⟩ := H.own p hp
      exact ⟨h1, h2, h3, ws, k, hs _ _ (ht.nm p hp) e, q.mono L⟩
    nd := H.nd }
theorem Rp.off (hb : TopOk T) (R : Rp C B s Z σ μ) {t : Addr} {h' : Heap} (ht : Own1 T B Z μ t) (hl : C.env.locals ≠ t) (hc : ∀ x c, C.env.cells.lookup x = some c → c ≠ t) (hs : Heap.ExtBut t s.heap h') :
    Rp C B { s with heap := h' } Z σ μ ∧ Le s.heap Z h' Z := by
  obtain ⟨H, L⟩ := R.toHp.off hb ht hs
  refine ⟨{ toHp := H, keys := R.keys, frs := R.frs, loc := R.loc, ns := ?_, cel := fun x c e => ?_ }, L⟩
  · obtain ⟨m, hn, q⟩ := R.ns
    exact ⟨m, hn.extBut hs hl, fun x a h1 h2 => (q x a h1 h2).imp id fun ⟨v, e, q⟩ => ⟨v, e, q.mono L⟩⟩
  · obtain ⟨h1, h0, h2, v₀, hc', q⟩ := R.cel x c e
    exact ⟨h1, h0, h2, v₀, cellExt hc' hs (hc x c e), fun a h1 h2 => (q a h1 h2).imp id fun ⟨v, e, q⟩ => ⟨v, e, q.mono L⟩⟩
theorem Rp.setLocal (ok : C.Ok) (R : Rp C B s Z σ μ) {x : Str} {a : AV} {v : Value} {h' : Heap} {m : Str → Option Value} (U : Up x AV a σ σ')
    (hm : s.heap.Ns C.env.locals m) (hr : ∀ x a, (x, a) ∈ σ → (x, false) ∈ S.names → a = .un ∨ ∃ v, m x = some v ∧ VR s.heap Z v a)
    (hn : h'.Ns C.env.locals (fun y => if y = x then some v else m y)) (hs : Heap.ExtBut C.env.locals s.heap h') (hl : (x, false) ∈ S.names) (r : VR s.heap Z v a) :
    Rp C B { s with heap := h' } Z σ' μ ∧ Le s.heap Z h' Z := by
  obtain ⟨H, L⟩ := R.toHp.off ok.top R.loc hs
  have nd : (σ.map (·.1)).Nodup := R.keys ▸ ok.nd
  refine ⟨{ toHp := H, keys := U.keys.trans R.keys, frs := R.frs, loc := R.loc, ns := ⟨_, hn, fun y b h1 h2 => ?_⟩, cel := fun y c e => ?_ }, L⟩
  · rcases U.mem nd h1 with ⟨e1, e2⟩ | ⟨e1, h1⟩
    · exact .inr ⟨v, by rw [if_pos e1], e2 ▸ r.mono L⟩
    · exact (hr y b h1 h2).imp id fun ⟨w, e, q⟩ => ⟨w, by rw [if_neg e1]; exact e, q.mono L⟩
  · obtain ⟨h1, h0, h2, v₀, hc', q⟩ := R.cel y c e
    refine ⟨h1, h0, h2, v₀, cellExt hc' hs h2, fun b g1 g2 => ?_⟩
    rcases U.mem nd g1 with ⟨e1, e2⟩ | ⟨e1, g1⟩
    · exfalso
      have k1 := (ok.names _ g2).2 rfl
      have k2 := (ok.names _ hl).1 rfl
      rw [e1] at k1
      have := k1.1.symm.trans k2
      cases this
    · exact (q b g1 g2).imp id fun ⟨w, e, q⟩ => ⟨w, e, q.mono L⟩
theorem Rp.setCell (ok : C.Ok) {x : Str} (hro : S.rw x) (R : Rp C B s Z σ μ) {a : AV} {v : Value} {h' : Heap} {c : Addr} (U : Up x AV a σ σ') (hc : C.env.cells.lookup x = some c)
    (hn : h'.IsCell c (some v)) (hs : Heap.ExtBut c s.heap h') (hl : (x, true) ∈ S.names) (r : VR s.heap Z v a) :
    Rp C B { s with heap := h' } Z σ' μ ∧ Le s.heap Z h' Z := by
  obtain ⟨k1, k0, k2, _⟩ := R.cel x c hc
  obtain ⟨H, L⟩ := R.toHp.off ok.top ⟨k1.big, k1.nz, k1.nm, k0 hro⟩ hs
  have nd : (σ.map (·.1)).Nodup := R.keys ▸ ok.nd
  refine ⟨{ toHp := H, keys := U.keys.trans R.keys, frs := R.frs, loc := R.loc, ns := ?_, cel := fun y c' e => ?_ }, L⟩
  · obtain ⟨m, hm, hr⟩ := R.ns
    refine ⟨m, hm.extBut hs (Ne.symm k2), fun y b h1 h2 => ?_⟩
    rcases U.mem nd h1 with ⟨e1, e2⟩ | ⟨e1, h1⟩
    · exfalso
      have k1 := (ok.names _ h2).1 rfl
      have k2 := ((ok.names _ hl).2 rfl).1
      rw [e1] at k1
      have := k1.symm.trans k2
      cases this
    · exact (hr y b h1 h2).imp id fun ⟨w, e, q⟩ => ⟨w, e, q.mono L⟩
  · obtain ⟨h1, h0, h2, v₀, hc', q⟩ := R.cel y c' e
    by_cases hyc : c' = c
    · have : y = x := ok.inj y x c (hyc ▸ e) hc
      subst hyc; subst this
      refine ⟨h1, h0, h2, some v, hn, fun b g1 g2 => ?_⟩
      rcases U.mem nd g1 with ⟨e1, e2⟩ | ⟨e1, g1⟩
      · exact .inr ⟨v, rfl, e2 ▸ r.mono L⟩
      · exact absurd rfl e1
    · refine ⟨h1, h0, h2, v₀, cellExt hc' hs hyc, fun b g1 g2 => ?_⟩
      rcases U.mem nd g1 with ⟨e1, e2⟩ | ⟨e1, g1⟩
      · exact absurd (Option.some.inj (hc.symm.trans (e1 ▸ e))).symm hyc
      · exact (q b g1 g2).imp id fun ⟨w, e, q⟩ => ⟨w, e, q.mono L⟩
end
end Mine
namespace Mine
open PySem PySem.W PySem.Calls PyProof.Rows
noncomputable abbrev NoE : Value → Shared → Prop := fun _ _ => False
noncomputable abbrev Md (T : TopCx) : Model := model T.prog T.w
noncomputable abbrev Sig := List (Str × AV)
noncomputable abbrev Sto := List (Addr × List AV)
theorem noe {α : Type} {M : Model} {A : Around} {t : Sem α} {Q : α → Shared → Prop} {E : Value → Shared → Prop} {s : Shared} (h : wpAny M A t Q NoE s) : wpAny M A t Q E s :=
  wpAny_mono h (fun _ _ x => x) fun _ _ x => x.elim
section
variable {T : TopCx} {S : FnS}
inductive PostS (C : Cx T S) (B : Base) (σ : Sig) (μ' : Sto) (h : Heap) (Z : Addr → Prop) (a : AV) (v : Value) (s' : Shared) : Prop
  | mk (Z' : Addr → Prop) (R : Rp C B s' Z' σ μ') (L : Le h Z s'.heap Z') (V : VR s'.heap Z' v a)
inductive PostN (C : Cx T S) (B : Base) (σ : Sig) (μ' : Sto) (h : Heap) (Z : Addr → Prop) (xs : List AV) (v : Value) (s' : Shared) : Prop
  | mk (Z' : Addr → Prop) (l : Addr) (e : v = .ref l) (R : Rp C B s' Z' σ ((l, xs) :: μ')) (L : Le h Z s'.heap Z')
inductive PostT (C : Cx T S) (B : Base) (σ : Sig) (μ' : Sto) (h : Heap) (Z : Addr → Prop) (b c : Bool) (s' : Shared) : Prop
  | mk (e : c = b) (Z' : Addr → Prop) (R : Rp C B s' Z' σ μ') (L : Le h Z s'.heap Z')
structure EvS (C : Cx T S) (e : Expr) (σ : Sig) (μ : Sto) (a : AV) (μ' : Sto) : Prop where
  run : C.Ok → ∀ B s Z, Rp C B s Z σ μ → wpAny (Md T) C.A (eval e C.env) (PostS C B σ μ' s.heap Z a) NoE s
noncomputable abbrev EvD (C : Cx T S) (e : Expr) (σ : Sig) (μ : Sto) (a : AV) : Prop := EvS C e σ μ a μ
structure EvN (C : Cx T S) (e : Expr) (σ : Sig) (μ : Sto) (xs : List AV) (μ' : Sto) : Prop where
  run : C.Ok → ∀ B s Z, Rp C B s Z σ μ → wpAny (Md T) C.A (eval e C.env) (PostN C B σ μ' s.heap Z xs) NoE s
structure EvT (C : Cx T S) (e : Expr) (σ : Sig) (μ : Sto) (b : Bool) (μ' : Sto) : Prop where
  run : C.Ok → ∀ B s Z, Rp C B s Z σ μ → wpAny (Md T) C.A (isTrue e C.env (eval e C.env)) (PostT C B σ μ' s.heap Z b) NoE s
noncomputable abbrev EvB (C : Cx T S) (e : Expr) (σ : Sig) (μ : Sto) (b : Bool) : Prop := EvT C e σ μ b μ
structure Op2 (C : Cx T S) (op : Operator) (a b : AV) (σ : Sig) (μ : Sto) (c : AV) : Prop where
  run : C.Ok → ∀ B s Z v w, Rp C B s Z σ μ → VR s.heap Z v a → VR s.heap Z w b → wpAny (Md T) C.A (binaryOp op v w) (PostS C B σ μ s.heap Z c) NoE s
structure Cmp (C : Cx T S) (op : CmpOp) (a b : AV) (σ : Sig) (μ : Sto) (c : Bool) : Prop where
  run : C.Ok → ∀ B s Z v w, Rp C B s Z σ μ → VR s.heap Z v a → VR s.heap Z w b → wpAny (Md T) C.A (compareOp op v w) (PostS C B σ μ s.heap Z (.bool c)) NoE s
structure Tru (C : Cx T S) (a : AV) (σ : Sig) (μ : Sto) (b : Bool) : Prop where
  run : C.Ok → ∀ B s Z v, Rp C B s Z σ μ → VR s.heap Z v a → wpAny (Md T) C.A (truthy v) (fun c s' => c = b ∧ Rp C B s' Z σ μ ∧ Le s.heap Z s'.heap Z) NoE s
variable {C : Cx T S} {B : Base} {s s₁ : Shared} {Z Z₁ : Addr → Prop} {σ : Sig} {μ μ' μ'' μ₁ μ₂ μ₃ : Sto} {e l r : Expr} {a b c : AV} {pos : Pos} {k : Nat}
theorem PostS.le {h h₁ : Heap} {v : Value} {s' : Shared} (L : Le h Z h₁ Z₁) (p : PostS C B σ μ h₁ Z₁ a v s') : PostS C B σ μ h Z a v s' :=
  let ⟨Z', R, L', V⟩ := p; ⟨Z', R, L.trans L', V⟩
theorem PostS.mk0 {v : Value} (R : Rp C B s Z σ μ) (V : VR s.heap Z v a) : PostS C B σ μ s.heap Z a v s := ⟨Z, R, Le.refl _ _, V⟩
theorem PostS.tok {v : Value} (R : Rp C B s Z σ μ) (t : Nat) (V : VR s.heap Z v a) (ht : 0 < t := by exact Nat.succ_pos _) : PostS C B σ μ s.heap Z a v { s with toks := t } := ⟨Z, R.toks t ht, Le.refl _ _, V⟩
noncomputable def AV.isUn : AV → Bool
  | .un => true
  | _ => false
theorem load_name {x : Str} (ok : C.Ok) (R : Rp C B s Z σ μ) (hm : (x, a) ∈ σ) (hu : a.isUn = false) : wpAny (Md T) C.A (loadName C.env x) (PostS C B σ μ s.heap Z a) NoE s := by
  have hk : x ∈ S.names.map (·.1) := R.keys ▸ List.mem_map_of_mem (f := (·.1)) hm
  obtain ⟨⟨y, cl⟩, hp, rfl⟩ := List.mem_map.mp hk
  have un : a ≠ .un := fun e => by subst e; cases hu
  cases cl with
  | false =>
    obtain ⟨m, hn, hr⟩ := R.ns
    rcases hr _ _ hm hp with e | ⟨v, e, V⟩
    · exact absurd e un
    · exact wpAny_loadName_local ok.kind ((ok.names _ hp).1 rfl) hn e (PostS.mk0 R V)
  | true =>
    obtain ⟨hk, c, hc⟩ := (ok.names _ hp).2 rfl
    obtain ⟨_, _, _, v₀, hcell, hr⟩ := R.cel _ _ hc
    rcases hr _ hm hp with e | ⟨v, e, V⟩
    · exact absurd e un
    · subst e
      exact wpAny_loadName_cell ok.kind hk hc hcell (PostS.mk0 R V)
theorem ev_name {x : Str} (hm : (x, a) ∈ σ) (hu : a.isUn = false := by rfl) : EvD C (.Name x pos) σ μ a := ⟨fun ok B s Z R => by
  have hk : x ∈ S.names.map (·.1) := R.keys ▸ List.mem_map_of_mem (f := (·.1)) hm
  obtain ⟨p, hp, e⟩ := List.mem_map.mp hk
  exact wpAny_Name (load_name ok R hm hu) (e ▸ ok.dbgN p hp)⟩
theorem ev_glob {x : Str} {v : Value} (hm : (x, v) ∈ S.globs) : EvD C (.Name x pos) σ μ (.val v) := by
  refine ⟨fun ok B s Z R => ?_⟩
  obtain ⟨hk, hr⟩ := ok.globs _ hm
  refine Name_function_global ok.kind hk ?_ (ok.dbgG _ hm)
  have hg : s.heap.Ns C.env.globals T.mg := by rw [ok.glob]; exact ok.top.g.keeps R.top
  have hb : s.heap.Ns C.env.builtins T.mb := by rw [ok.blt]; exact ok.top.b.keeps R.top
  rcases hr with e | ⟨e1, e2⟩
  · exact loadGlobal_global hg e (PostS.mk0 R (.val _))
  · exact loadGlobal_builtin hg e1 hb e2 (PostS.mk0 R (.val _))
theorem ev_int {i : Int} : EvD C (.Constant (.int i) k pos) σ μ (.int i) := ⟨fun ok B s Z R => wpAny_Constant_int (PostS.tok R _ (.int _ _))⟩
theorem ev_str {x : Str} {y : List Nat} (hx : x = stv y) : EvD C (.Constant (.str x) k pos) σ μ (.str y) := ⟨fun ok B s Z R => Constant_str (PostS.tok R _ (hx ▸ .str _ _))⟩
theorem ev_none : EvD C (.Constant .none k pos) σ μ .none := ⟨fun ok B s Z R => wpAny_pure (PostS.mk0 R .none)⟩
theorem ev_bool {b : Bool} : EvD C (.Constant (.bool b) k pos) σ μ (.bool b) := ⟨fun ok B s Z R => wpAny_pure (PostS.mk0 R (.bool b))⟩
theorem evs_bin {op : Operator} (hl : EvS C l σ μ a μ₁) (hr : EvS C r σ μ₁ b μ₂) (ho : Op2 C op a b σ μ₂ c) : EvS C (.BinOp l op r pos) σ μ c μ₂ := by
  refine ⟨fun ok B s Z R => ?_⟩
  refine wpAny_BinOp (wpAny_mono (hl.run ok B s Z R) ?_ fun _ _ x => x)
  rintro v s₁ ⟨Z₁, R₁, L₁, V₁⟩
  refine wpAny_mono (hr.run ok B s₁ Z₁ R₁) ?_ fun _ _ x => x
  rintro w s₂ ⟨Z₂, R₂, L₂, V₂⟩
  exact wpAny_mono (ho.run ok B s₂ Z₂ v w R₂ (V₁.mono L₂) V₂) (fun _ _ p => p.le (L₁.trans L₂)) fun _ _ x => x
theorem evs_cmp {op : CmpOp} {c : Bool} (hl : EvS C l σ μ a μ₁) (hr : EvS C r σ μ₁ b μ₂) (ho : Cmp C op a b σ μ₂ c) (hm : behindInMarks op r = false := by rfl) : EvS C (.Compare l [op] [r] pos) σ μ (.bool c) μ₂ := by
  refine ⟨fun ok B s Z R => ?_⟩
  refine wpAny_Compare1 (wpAny_mono (hl.run ok B s Z R) ?_ fun _ _ x => x) hm
  rintro v s₁ ⟨Z₁, R₁, L₁, V₁⟩
  refine wpAny_mono (hr.run ok B s₁ Z₁ R₁) ?_ fun _ _ x => x
  rintro w s₂ ⟨Z₂, R₂, L₂, V₂⟩
  exact wpAny_mono (ho.run ok B s₂ Z₂ v w R₂ (V₁.mono L₂) V₂) (fun _ _ p => p.le (L₁.trans L₂)) fun _ _ x => x
theorem evt_cmp {op : CmpOp} {c : Bool} (hl : EvS C l σ μ a μ₁) (hr : EvS C r σ μ₁ b μ₂) (ho : Cmp C op a b σ μ₂ c) (hm : behindInMarks op r = false := by rfl) : EvT C (.Compare l [op] [r] pos) σ μ c μ₂ := by
  refine ⟨fun ok B s Z R => ?_⟩
  refine wpAny_isTrue_Compare1 (wpAny_mono (hl.run ok B s Z R) ?_ fun _ _ x => x) hm
  rintro v s₁ ⟨Z₁, R₁, L₁, V₁⟩
  refine wpAny_mono (hr.run ok B s₁ Z₁ R₁) ?_ fun _ _ x => x
  rintro w s₂ ⟨Z₂, R₂, L₂, V₂⟩
  refine wpAny_mono (ho.run ok B s₂ Z₂ v w R₂ (V₁.mono L₂) V₂) ?_ fun _ _ x => x
  rintro u s₃ ⟨Z₃, R₃, L₃, V₃⟩
  obtain rfl := V₃.ibool
  exact wpAny_truthy_bool ⟨rfl, Z₃, R₃, L₁.trans (L₂.trans L₃)⟩
theorem evt_not {b : Bool} (h : EvT C e σ μ b μ') : EvT C (.UnaryOp .Not e pos) σ μ (!b) μ' := by
  refine ⟨fun ok B s Z R => ?_⟩
  refine isTrue_not (wpAny_mono (h.run ok B s Z R) ?_ fun _ _ x => x)
  rintro c s' ⟨rfl, Z₁, R₁, L₁⟩
  exact ⟨rfl, Z₁, R₁, L₁⟩
theorem evt_val {b : Bool} (h : EvS C e σ μ a μ') (ht : Tru C a σ μ' b) (hp : ∀ whole, isTrue e C.env whole = (do let v ← whole; standAt e.pos; holding [v] (truthy v)) := by intro _; rfl) : EvT C e σ μ b μ' := by
  refine ⟨fun ok B s Z R => ?_⟩
  rw [hp]
  refine wpAny_bind (wpAny_mono (h.run ok B s Z R) ?_ fun _ _ x => x)
  rintro v s₁ ⟨Z₁, R₁, L₁, V₁⟩
  refine wpAny_bind (wpAny_standAt (wpAny_holding (wpAny_mono (ht.run ok B s₁ Z₁ v R₁ V₁) ?_ fun _ _ x => x)))
  rintro c s₂ ⟨rfl, R₂, L₂⟩
  exact ⟨rfl, Z₁, R₂, L₁.trans L₂⟩
structure EvAll (C : Cx T S) (op : BoolOp) (es : List Expr) (σ : Sig) (μ : Sto) (b : Bool) : Prop where
  run : C.Ok → ∀ B s Z, Rp C B s Z σ μ → wpAny (Md T) C.A (allTrue op es C.env) (PostT C B σ μ s.heap Z b) NoE s
theorem evall_nil {op : BoolOp} : EvAll C op [] σ μ (op == .And) := ⟨fun ok B s Z R => wpAny_pure ⟨rfl, Z, R, Le.refl _ _⟩⟩
theorem evall_and {es : List Expr} {b b' : Bool} (h : EvB C e σ μ b) (hr : b = true → EvAll C .And es σ μ b') : EvAll C .And (e :: es) σ μ (b && b') := by
  refine ⟨fun ok B s Z R => ?_⟩
  show wpAny _ _ (isTrue e C.env (eval e C.env) >>= _) _ _ s
  refine wpAny_bind (wpAny_mono (h.run ok B s Z R) ?_ fun _ _ x => x)
  rintro c s₁ ⟨rfl, Z₁, R₁, L₁⟩
  cases c with
  | false => exact wpAny_pure ⟨rfl, Z₁, R₁, L₁⟩
  | true =>
    refine wpAny_mono ((hr rfl).run ok B s₁ Z₁ R₁) ?_ fun _ _ x => x
    rintro c s₂ ⟨rfl, Z₂, R₂, L₂⟩
    exact ⟨by simp, Z₂, R₂, L₁.trans L₂⟩
theorem evall_or {es : List Expr} {b b' : Bool} (h : EvB C e σ μ b) (hr : b = false → EvAll C .Or es σ μ b') : EvAll C .Or (e :: es) σ μ (b || b') := by
  refine ⟨fun ok B s Z R => ?_⟩
  show wpAny _ _ (isTrue e C.env (eval e C.env) >>= _) _ _ s
  refine wpAny_bind (wpAny_mono (h.run ok B s Z R) ?_ fun _ _ x => x)
  rintro c s₁ ⟨rfl, Z₁, R₁, L₁⟩
  cases c with
  | true => exact wpAny_pure ⟨rfl, Z₁, R₁, L₁⟩
  | false =>
    refine wpAny_mono ((hr rfl).run ok B s₁ Z₁ R₁) ?_ fun _ _ x => x
    rintro c s₂ ⟨rfl, Z₂, R₂, L₂⟩
    exact ⟨by simp, Z₂, R₂, L₁.trans L₂⟩
theorem evt_bool {op : BoolOp} {es : List Expr} {b : Bool} (h : EvAll C op es σ μ b) : EvB C (.BoolOp op es pos) σ μ b := ⟨fun ok B s Z R => h.run ok B s Z R⟩
structure EvChain (C : Cx T S) (p : Pos) (op : BoolOp) (es : List Expr) (σ : Sig) (μ : Sto) (b : Bool) : Prop where
  run : C.Ok → ∀ B s Z, Rp C B s Z σ μ → wpAny (Md T) C.A (boolOp p op (evalEach es C.env)) (PostS C B σ μ s.heap Z (.bool b)) NoE s
theorem evch_one {p : Pos} {op : BoolOp} {b : Bool} (h : EvD C e σ μ (.bool b)) : EvChain C p op [e] σ μ b := ⟨fun ok B s Z R => h.run ok B s Z R⟩
theorem evch_and {p : Pos} {e' : Expr} {es : List Expr} {b b' : Bool} (h : EvD C e σ μ (.bool b)) (hr : b = true → EvChain C p .And (e' :: es) σ μ b') : EvChain C p .And (e :: e' :: es) σ μ (b && b') := by
  refine ⟨fun ok B s Z R => ?_⟩
  show wpAny _ _ (eval e C.env >>= _) _ _ s
  refine wpAny_bind (wpAny_mono (h.run ok B s Z R) ?_ fun _ _ x => x)
  rintro v s₁ ⟨Z₁, R₁, L₁, V₁⟩
  obtain rfl := V₁.ibool
  refine wpAny_bind (wpAny_standAt (wpAny_bind (wpAny_holding (wpAny_truthy_bool ?_))))
  cases b with
  | false => exact wpAny_pure ⟨Z₁, R₁, L₁, .bool _⟩
  | true => exact wpAny_mono ((hr rfl).run ok B s₁ Z₁ R₁) (fun _ _ p => by simpa using p.le L₁) fun _ _ x => x
theorem evch_or {p : Pos} {e' : Expr} {es : List Expr} {b b' : Bool} (h : EvD C e σ μ (.bool b)) (hr : b = false → EvChain C p .Or (e' :: es) σ μ b') : EvChain C p .Or (e :: e' :: es) σ μ (b || b') := by
  refine ⟨fun ok B s Z R => ?_⟩
  show wpAny _ _ (eval e C.env >>= _) _ _ s
  refine wpAny_bind (wpAny_mono (h.run ok B s Z R) ?_ fun _ _ x => x)
  rintro v s₁ ⟨Z₁, R₁, L₁, V₁⟩
  obtain rfl := V₁.ibool
  refine wpAny_bind (wpAny_standAt (wpAny_bind (wpAny_holding (wpAny_truthy_bool ?_))))
  cases b with
  | true => exact wpAny_pure ⟨Z₁, R₁, L₁, .bool _⟩
  | false => exact wpAny_mono ((hr rfl).run ok B s₁ Z₁ R₁) (fun _ _ p => by simpa using p.le L₁) fun _ _ x => x
theorem ev_boolop {op : BoolOp} {es : List Expr} {b : Bool} (h : EvChain C pos op es σ μ b) : EvD C (.BoolOp op es pos) σ μ (.bool b) := ⟨fun ok B s Z R => h.run ok B s Z R⟩
theorem evs_ife {t : Expr} {b : Bool} (ht : EvT C t σ μ b μ₁) (h1 : b = true → EvS C l σ μ₁ a μ₂) (h2 : b = false → EvS C r σ μ₁ a μ₂) : EvS C (.IfExp t l r pos) σ μ a μ₂ := by
  refine ⟨fun ok B s Z R => ?_⟩
  show wpAny _ _ (isTrue t C.env (eval t C.env) >>= _) _ _ s
  refine wpAny_bind (wpAny_mono (ht.run ok B s Z R) ?_ fun _ _ x => x)
  rintro c s₁ ⟨rfl, Z₁, R₁, L₁⟩
  cases c with
  | true => exact wpAny_mono ((h1 rfl).run ok B s₁ Z₁ R₁) (fun _ _ p => p.le L₁) fun _ _ x => x
  | false => exact wpAny_mono ((h2 rfl).run ok B s₁ Z₁ R₁) (fun _ _ p => p.le L₁) fun _ _ x => x
theorem ev_neg {i : Int} (h : EvD C e σ μ (.int i)) : EvD C (.UnaryOp .USub e pos) σ μ (.int (-i)) := by
  refine ⟨fun ok B s Z R => ?_⟩
  show wpAny _ _ (eval e C.env >>= _) _ _ s
  refine wpAny_bind (wpAny_mono (h.run ok B s Z R) ?_ fun _ _ x => x)
  rintro v s₁ ⟨Z₁, R₁, L₁, V₁⟩
  obtain ⟨_, rfl⟩ := V₁.iint
  exact wpAny_bind (wpAny_standAt (wpAny_holding (PyProof.Rows.neg_int ⟨Z₁, R₁.toks _, L₁, .int _ _⟩)))
end
end Mine
namespace Mine
open PySem PySem.W PySem.Calls PyProof.Rows PySem.Spec
section
variable {T : TopCx} {S : FnS} {C : Cx T S} {B : Base} {s : Shared} {Z : Addr → Prop} {σ : Sig} {μ : Sto} {pos : Pos}
theorem op_add {i j : Int} : Op2 C .Add (.int i) (.int j) σ μ (.int (i + j)) := ⟨fun ok B s Z v w R V W => by
  obtain ⟨_, rfl⟩ := V.iint; obtain ⟨_, rfl⟩ := W.iint; exact PyProof.Rows.add_int (PostS.tok R _ (.int _ _))⟩
theorem op_sub {i j : Int} : Op2 C .Sub (.int i) (.int j) σ μ (.int (i - j)) := ⟨fun ok B s Z v w R V W => by
  obtain ⟨_, rfl⟩ := V.iint; obtain ⟨_, rfl⟩ := W.iint; exact PyProof.Rows.sub_int (PostS.tok R _ (.int _ _))⟩
theorem op_mul {i j : Int} (h : IntMulOk i j) : Op2 C .Mult (.int i) (.int j) σ μ (.int (i * j)) := ⟨fun ok B s Z v w R V W => by
  obtain ⟨_, rfl⟩ := V.iint; obtain ⟨_, rfl⟩ := W.iint; exact PyProof.Rows.mul_int (PostS.tok R _ (.int _ _)) h⟩
theorem op_fdiv {i j : Int} (h : j ≠ 0) (hi : i.natAbs < 2 ^ 63) (hj : j.natAbs < 2 ^ 30) : Op2 C .FloorDiv (.int i) (.int j) σ μ (.int (i.fdiv j)) := ⟨fun ok B s Z v w R V W => by
  obtain ⟨_, rfl⟩ := V.iint; obtain ⟨_, rfl⟩ := W.iint
  exact PyProof.Rows.floordiv_int h (PostS.tok R _ (.int _ _)) (.inl (PyProof.noPylong_small (by lia)))⟩
theorem op_mod {i j : Int} (h : j ≠ 0) : Op2 C .Mod (.int i) (.int j) σ μ (.int (i.fmod j)) := ⟨fun ok B s Z v w R V W => by
  obtain ⟨_, rfl⟩ := V.iint; obtain ⟨_, rfl⟩ := W.iint; exact PyProof.Rows.mod_int h (PostS.tok R _ (.int _ _))⟩
theorem op_pow {i j : Int} (h0 : 0 ≤ j) (h1 : j ≤ 1000000) (h2 : i.natAbs < 2 ^ 64) : Op2 C .Pow (.int i) (.int j) σ μ (.int (i ^ j.toNat)) := ⟨fun ok B s Z v w R V W => by
  obtain ⟨_, rfl⟩ := V.iint; obtain ⟨_, rfl⟩ := W.iint; exact PyProof.Rows.pow_int_small h0 h1 h2 (PostS.tok R _ (.int _ _))⟩
theorem op_shr {i j : Int} (h0 : 0 ≤ j) : Op2 C .RShift (.int i) (.int j) σ μ (.int (i.fdiv (2 ^ j.toNat))) := ⟨fun ok B s Z v w R V W => by
  obtain ⟨_, rfl⟩ := V.iint; obtain ⟨_, rfl⟩ := W.iint; exact PyProof.Rows.rshift_int h0 (PostS.tok R _ (.int _ _))⟩
theorem cmp_lt {i j : Int} : Cmp C .Lt (.int i) (.int j) σ μ (decide (i < j)) := ⟨fun ok B s Z v w R V W => by
  obtain ⟨_, rfl⟩ := V.iint; obtain ⟨_, rfl⟩ := W.iint; exact PyProof.Rows.lt_int (PostS.mk0 R (.bool _))⟩
theorem cmp_le {i j : Int} : Cmp C .LtE (.int i) (.int j) σ μ (decide (i ≤ j)) := ⟨fun ok B s Z v w R V W => by
  obtain ⟨_, rfl⟩ := V.iint; obtain ⟨_, rfl⟩ := W.iint; exact P.le_int (PostS.mk0 R (.bool _))⟩
theorem cmp_gt {i j : Int} : Cmp C .Gt (.int i) (.int j) σ μ (decide (j < i)) := ⟨fun ok B s Z v w R V W => by
  obtain ⟨_, rfl⟩ := V.iint; obtain ⟨_, rfl⟩ := W.iint; exact PyProof.Rows.gt_int (PostS.mk0 R (.bool _))⟩
theorem cmp_ge {i j : Int} : Cmp C .GtE (.int i) (.int j) σ μ (decide (j ≤ i)) := ⟨fun ok B s Z v w R V W => by
  obtain ⟨_, rfl⟩ := V.iint; obtain ⟨_, rfl⟩ := W.iint; exact P.ge_int (PostS.mk0 R (.bool _))⟩
theorem cmp_eq {i j : Int} : Cmp C .Eq (.int i) (.int j) σ μ (i == j) := ⟨fun ok B s Z v w R V W => by
  obtain ⟨_, rfl⟩ := V.iint; obtain ⟨_, rfl⟩ := W.iint; exact PyProof.Rows.eq_int (PostS.mk0 R (.bool _))⟩
theorem cmp_ne {i j : Int} : Cmp C .NotEq (.int i) (.int j) σ μ (i != j) := ⟨fun ok B s Z v w R V W => by
  obtain ⟨_, rfl⟩ := V.iint; obtain ⟨_, rfl⟩ := W.iint; exact PyProof.Rows.ne_int (PostS.mk0 R (.bool _))⟩
theorem cmp_ne_bool {x y : Bool} : Cmp C .NotEq (.bool x) (.bool y) σ μ (x != y) := ⟨fun ok B s Z v w R V W => by
  obtain rfl := V.ibool; obtain rfl := W.ibool
  exact ne_dataH (Reads.bool _) (Reads.bool _) rfl rfl (by have := ok.units; lia) (PostS.mk0 R (by simpa [PyData.eqv, bne] using VR.bool _))⟩
theorem stv_append (x y : List Nat) : stv x ++ stv y = stv (x ++ y) := by
  apply Str.ext'
  rw [Str.cps_append]; simp
theorem op_adds {x y : List Nat} (h : x.length + y.length ≤ sizeLine) : Op2 C .Add (.str x) (.str y) σ μ (.str (x ++ y)) := ⟨fun ok B s Z v w R V W => by
  obtain ⟨_, rfl⟩ := V.istr; obtain ⟨_, rfl⟩ := W.istr
  refine wpAny_up (PyProof.Rows.add_str (fun t' tk hle => ?_) (by simpa [Str.length] using h))
  rw [stv_append]
  exact PostS.tok R _ (.str _ _) (Nat.lt_of_lt_of_le R.tk hle)⟩
theorem cmp_eqs {x y : List Nat} : Cmp C .Eq (.str x) (.str y) σ μ (x == y) := ⟨fun ok B s Z v w R V W => by
  obtain ⟨_, rfl⟩ := V.istr; obtain ⟨_, rfl⟩ := W.istr; exact P.eq_str (PostS.mk0 R (.bool _))⟩
theorem cmp_nes {x y : List Nat} : Cmp C .NotEq (.str x) (.str y) σ μ (x != y) := ⟨fun ok B s Z v w R V W => by
  obtain ⟨_, rfl⟩ := V.istr; obtain ⟨_, rfl⟩ := W.istr; exact P.ne_str (PostS.mk0 R (.bool _))⟩
theorem cmp_les {x y : List Nat} : Cmp C .LtE (.str x) (.str y) σ μ (!(decide (y < x))) := ⟨fun ok B s Z v w R V W => by
  obtain ⟨_, rfl⟩ := V.istr; obtain ⟨_, rfl⟩ := W.istr; exact P.le_str (PostS.mk0 R (.bool _))⟩
theorem cmp_gts {x y : List Nat} : Cmp C .Gt (.str x) (.str y) σ μ (decide (y < x)) := ⟨fun ok B s Z v w R V W => by
  obtain ⟨_, rfl⟩ := V.istr; obtain ⟨_, rfl⟩ := W.istr; exact P.gt_str (PostS.mk0 R (.bool _))⟩
noncomputable def occ (x y : List Nat) : Bool := !(Builtin.Str.occurrences (stv x) (stv y) 0 (stv x).length 1).isEmpty
theorem cmp_ins {x y : List Nat} : Cmp C .In (.str y) (.str x) σ μ (occ x y) := ⟨fun ok B s Z v w R V W => by
  obtain ⟨_, rfl⟩ := V.istr; obtain ⟨_, rfl⟩ := W.istr; exact PyProof.Rows.in_str (PostS.mk0 R (.bool _))⟩
theorem cmp_nins {x y : List Nat} : Cmp C .NotIn (.str y) (.str x) σ μ (!occ x y) := ⟨fun ok B s Z v w R V W => by
  obtain ⟨_, rfl⟩ := V.istr; obtain ⟨_, rfl⟩ := W.istr; exact PyProof.Rows.notIn_str (PostS.mk0 R (.bool _))⟩
theorem cmp_is_none {a : AV} (h : match a with | .none | .bool _ | .int _ | .str _ | .tup _ | .lst _ | .own _ => True | _ => False) : Cmp C .Is a .none σ μ (match a with | .none => true | _ => false) := ⟨fun ok B s Z v w R V W => by
  cases W
  refine PyProof.Rows.is_none_gen ?_
  cases V <;> first | exact PostS.mk0 R (.bool _) | exact h.elim⟩
theorem cmp_isnot_self {x : Addr} : Cmp C .IsNot (.val (.ref x)) (.val (.ref x)) σ μ false := ⟨fun ok B s Z v w R V W => by
  obtain rfl := V.ival; obtain rfl := W.ival; exact wpAny_isNot_ref_self (PostS.mk0 R (.bool _))⟩
theorem cmp_is_self {x : Addr} : Cmp C .Is (.val (.ref x)) (.val (.ref x)) σ μ true := ⟨fun ok B s Z v w R V W => by
  obtain rfl := V.ival; obtain rfl := W.ival; exact wpAny_is_ref_self (PostS.mk0 R (.bool _))⟩
theorem cmp_isnot_str {x : List Nat} {y : Addr} : Cmp C .IsNot (.str x) (.val (.ref y)) σ μ true := ⟨fun ok B s Z v w R V W => by
  obtain ⟨_, rfl⟩ := V.istr; obtain rfl := W.ival
  exact wpAny_isNot_other (by rfl) (by intro e; cases e) (PostS.mk0 R (.bool _))⟩
theorem tru_bool {b : Bool} : Tru C (.bool b) σ μ b := ⟨fun ok B s Z v R V => by obtain rfl := V.ibool; exact wpAny_truthy_bool ⟨rfl, R, Le.refl _ _⟩⟩
theorem tru_int {i : Int} : Tru C (.int i) σ μ (i != 0) := ⟨fun ok B s Z v R V => by obtain ⟨_, rfl⟩ := V.iint; exact P.truthy_int ⟨rfl, R, Le.refl _ _⟩⟩
theorem tru_str {x : List Nat} (hx : x.length < 2 ^ 62) : Tru C (.str x) σ μ (!x.isEmpty) := ⟨fun ok B s Z v R V => by
  obtain ⟨_, rfl⟩ := V.istr
  refine P.truthy_str (by simp [Str.length]; lia) ⟨?_, R.toks _, Le.refl _ _⟩
  cases x with
  | nil => rfl
  | cons a r =>
    have : (((stv (a :: r)).length : Int) != 0) = true := bne_iff_ne.mpr (by simp [Str.length]; lia)
    rw [this]; rfl⟩
theorem isList_of {h : Heap} {a : Addr} {vs : List Value} {n : Nat} (e : h.get? a = some (listOf vs.toArray n)) : h.IsList a vs.toArray := ⟨_, e, rfl, n, rfl⟩
theorem isTup_of {h : Heap} {a : Addr} {vs : List Value} {n : Nat} (e : h.get? a = some (tupOf vs.toArray n)) : IsTup h a vs.toArray := ⟨_, e, rfl, n, rfl⟩
inductive LstAt (μ : Sto) : AV → List AV → Prop
  | lst (l) : LstAt μ (.lst l) l
  | own {a l} : (a, l) ∈ μ → LstAt μ (.own a) l
theorem LstAt.at {a : AV} {l : List AV} {v : Value} (h : LstAt μ a l) (R : Hp T B s Z μ) (V : VR s.heap Z v a) : ∃ x vs n, v = .ref x ∧ s.heap.get? x = some (listOf vs.toArray n) ∧ VRs s.heap Z vs l := by
  cases h with
  | lst =>
    obtain ⟨_, _, _, rfl, z, e, r⟩ := V.ilst
    exact ⟨_, _, _, rfl, e, r⟩
  | own hm =>
    obtain rfl := V.iown
    obtain ⟨_, _, _, vs, n, e, r⟩ := R.own _ hm
    exact ⟨_, vs, n, rfl, e, r⟩
theorem tru_list {a : AV} {l : List AV} (h : LstAt μ a l) (hl : l.length < 2 ^ 62) : Tru C a σ μ (!l.isEmpty) := ⟨fun ok B s Z v R V => by
  obtain ⟨x, vs, n, rfl, e, r⟩ := h.at R.toHp V
  have hlen := r.length
  refine wpAny_truthy_list (isList_of e) (by simp; lia) ⟨?_, R.toks _, Le.refl _ _⟩
  cases vs <;> cases l <;> simp_all⟩
noncomputable def nth (i : Int) (l : List α) : Option α := (seqIndex? i l.length).bind (l[·]?)
structure Itm (C : Cx T S) (a : AV) (i : Int) (σ : Sig) (μ : Sto) (c : AV) : Prop where
  run : C.Ok → ∀ B s Z v u (value slice : Expr), Rp C B s Z σ μ → VR s.heap Z v a → (∀ o i, subscripted slice false o i = operate [o, i] (getItem o i)) → wpAny (Md T) C.A (subscriptTail value slice v (.int i u)) (PostS C B σ μ s.heap Z c) NoE s
theorem seqIndex_lt {i : Int} {n j : Nat} (h : seqIndex? i n = some j) : j < n ∧ ((0 ≤ i ∧ i = j) ∨ (i < 0 ∧ i + n = j)) := by
  unfold seqIndex? at h
  by_cases h0 : i < 0
  · simp only [h0, if_true] at h
    split at h
    · rename_i h1
      simp only [Bool.and_eq_true, decide_eq_true_eq] at h1
      cases h
      refine ⟨by lia, .inr ⟨h0, by lia⟩⟩
    · cases h
  · simp only [h0, if_false] at h
    split at h
    · rename_i h1
      simp only [Bool.and_eq_true, decide_eq_true_eq] at h1
      cases h
      refine ⟨by lia, .inl ⟨by lia, by lia⟩⟩
    · cases h
theorem nth_some {i : Int} {l : List α} {c : α} (h : nth i l = some c) : ∃ j, seqIndex? i l.length = some j ∧ l[j]? = some c := by
  unfold nth at h
  cases e : seqIndex? i l.length with
  | none => rw [e] at h; cases h
  | some j => rw [e] at h; exact ⟨j, rfl, h⟩
theorem itm_list {a c : AV} {l : List AV} {i : Int} (h : LstAt μ a l) (hn : nth i l = some c) (hl : l.length < 2 ^ 62) : Itm C a i σ μ c := ⟨fun ok B s Z v u value slice R V hs => by
  obtain ⟨x, vs, n, rfl, e, r⟩ := h.at R.toHp V
  obtain ⟨j, hj, hc⟩ := nth_some hn
  obtain ⟨v, hv, Vc⟩ := r.get hc
  have hlen := r.length
  obtain ⟨hlt, ⟨h1, h2⟩ | ⟨h1, h2⟩⟩ := seqIndex_lt hj
  · have hji : i.toNat = j := by lia
    exact tail_any (isList_of e).typeIs slot_list_getitem.lookup (wpAny_getItem_list (isList_of e) h1 (by lia) (by rw [hji]; simpa using hv) (PostS.mk0 R Vc)) (hs _ _)
  · have hji : (i + (vs.toArray.size : Nat)).toNat = j := by simp; lia
    exact tail_any (isList_of e).typeIs slot_list_getitem.lookup (wpAny_getItem_list_neg (isList_of e) h1 (by simp; lia) (by lia) (by rw [hji]; simpa using hv) (PostS.mk0 R Vc)) (hs _ _)⟩
theorem itm_tup {c : AV} {l : List AV} {i : Int} (hn : nth i l = some c) (hl : l.length < 2 ^ 62) : Itm C (.tup l) i σ μ c := ⟨fun ok B s Z v u value slice R V hs => by
  obtain ⟨_, _, _, rfl, z, e, r⟩ := V.itup
  · obtain ⟨j, hj, hc⟩ := nth_some hn
    obtain ⟨v, hv, Vc⟩ := r.get hc
    have hlen := r.length
    obtain ⟨hlt, h12⟩ := seqIndex_lt hj
    exact tail_any (isTup_of e).typeIs slot_tuple_getitem.lookup (getItem_tuple (isTup_of e) (by lia) (by lia) (by simpa [hlen] using hj) (by simpa using hv) (PostS.mk0 R Vc)) (hs _ _)⟩
theorem itm_str {x : List Nat} {c : Nat} {i : Int} (hn : nth i x = some c) (hl : x.length < 2 ^ 62) : Itm C (.str x) i σ μ (.str [c]) := ⟨fun ok B s Z v u value slice R V hs => by
  obtain ⟨_, rfl⟩ := V.istr
  obtain ⟨j, hj, hc⟩ := nth_some hn
  obtain ⟨hlt, h12⟩ := seqIndex_lt hj
  refine tail_any (typeIs_str s _ _) F.slot_str_getitem.lookup (P.getItem_str (c := c) ?_ ?_ ?_) (hs _ _)
  · have h1 : ¬ i < -(2 ^ 63 : Int) := by lia
    have h2 : ¬ i ≥ 2 ^ 63 := by lia
    simp only [h1, h2, decide_false, Bool.or_false]
  · show (seqIndex? i x.toArray.size).bind (x.toArray[·]?) = some c
    simp only [List.size_toArray, hj, Option.bind_some, List.getElem?_toArray, hc]
  · exact PostS.tok R _ (.str [c] _)⟩
variable {μ₁ μ₂ : Sto} {e f : Expr}
theorem evs_item {a c : AV} {i : Int} (he : EvS C e σ μ a μ₁) (hf : EvS C f σ μ₁ (.int i) μ₂) (h : Itm C a i σ μ₂ c) (hs : ∀ o i, subscripted f false o i = operate [o, i] (getItem o i) := by intro _ _; rfl) : EvS C (.Subscript e f pos) σ μ c μ₂ := by
  refine ⟨fun ok B s Z R => ?_⟩
  refine Subscript_ (wpAny_mono (he.run ok B s Z R) ?_ fun _ _ x => x)
  rintro v s₁ ⟨Z₁, R₁, L₁, V₁⟩
  refine wpAny_mono (hf.run ok B s₁ Z₁ R₁) ?_ fun _ _ x => x
  rintro w s₂ ⟨Z₂, R₂, L₂, V₂⟩
  obtain ⟨_, rfl⟩ := V₂.iint
  exact wpAny_mono (h.run ok B s₂ Z₂ v _ _ _ R₂ (V₁.mono L₂) hs) (fun _ _ p => p.le (L₁.trans L₂)) fun _ _ x => x
noncomputable def slo (lo : Option Int) (n : Nat) : Nat := lo.elim 0 (clipAt n)
noncomputable def shi (hi : Option Int) (n : Nat) : Nat := hi.elim n (clipAt n)
noncomputable def slc {α : Type} (l : List α) (lo hi : Option Int) : List α := (l.drop (slo lo l.length)).take (shi hi l.length - slo lo l.length)
theorem strIdx_eq (lo hi : Option Int) (n : Nat) : Builtin.Str.strSliceIndices lo hi 1 n = (List.range (shi hi n - slo lo n)).map (slo lo n + ·) := by
  have h : Builtin.Str.strSliceIndices lo hi 1 n = sliceRange (sliceBounds lo hi none n).1 (sliceBounds lo hi none n).2.1 (sliceBounds lo hi none n).2.2 := by
    unfold Builtin.Str.strSliceIndices sliceBounds
    cases lo <;> cases hi <;> rfl
  rw [h, sliceBounds_plain]
  simp only [sliceRange_one]
  rfl
theorem slice_stv (x : List Nat) (lo hi : Option Int) : Txt.slice (stv x) lo hi = stv (slc x lo hi) := by
  unfold Txt.slice
  have hl : (stv x).length = x.length := by simp [Str.length]
  rw [strIdx_eq, hl]
  have hp : ((List.range (shi hi x.length - slo lo x.length)).map (slo lo x.length + ·)).filterMap ((stv x).cps[·]?) = slc x lo hi := by
    rw [pick_run]; rfl
  rw [hp]
  split
  · rename_i h
    have hsz : shi hi x.length - slo lo x.length = x.length := by simpa using h
    have h1 : slo lo x.length = 0 ∨ x = [] := by
      cases x with
      | nil => exact .inr rfl
      | cons a r =>
        left
        have h2 : shi hi (a :: r).length ≤ (a :: r).length := by
          unfold shi
          cases hi with
          | none => exact Nat.le_refl _
          | some i =>
            have := clipAt_cast (a :: r).length i
            show clipAt _ _ ≤ _
            lia
        have : 0 < (a :: r).length := by simp
        lia
    rcases h1 with h1 | h1
    · unfold slc; rw [h1] at hsz ⊢; rw [hsz]; simp
    · subst h1; simp [slc]
  · rfl
theorem slicePick_eq (vs : List Value) (lo hi : Option Int) : slicePick vs.toArray lo hi none = (slc vs lo hi).toArray := by
  rw [slicePick_plain]; simp [slc, slo, shi]
theorem VRs.slc {h : Heap} {Z : Addr → Prop} {vs : List Value} {as : List AV} (r : VRs h Z vs as) (lo hi : Option Int) : VRs h Z (Mine.slc vs lo hi) (Mine.slc as lo hi) := by
  unfold Mine.slc; rw [r.length]; exact (r.drop _).take _
inductive PostP (C : Cx T S) (B : Base) (σ : Sig) (μ' : Sto) (h : Heap) (Z : Addr → Prop) (i : Option Int) (v : Value) (s' : Shared) : Prop
  | mk (e : IsPart v i) (Z' : Addr → Prop) (R : Rp C B s' Z' σ μ') (L : Le h Z s'.heap Z')
structure EvO (C : Cx T S) (e : Option Expr) (σ : Sig) (μ : Sto) (i : Option Int) : Prop where
  run : C.Ok → ∀ B s Z, Rp C B s Z σ μ → wpAny (Md T) C.A (evalPart e C.env) (PostP C B σ μ s.heap Z i) NoE s
theorem evo_none : EvO C none σ μ none := ⟨fun ok B s Z R => wpAny_pure ⟨.none, Z, R, Le.refl _ _⟩⟩
theorem evo_some {i : Int} (h : EvD C e σ μ (.int i)) : EvO C (some e) σ μ (some i) := ⟨fun ok B s Z R => by
  refine wpAny_mono (h.run ok B s Z R) ?_ fun _ _ x => x
  rintro v s₁ ⟨Z₁, R₁, L₁, V₁⟩
  obtain ⟨_, rfl⟩ := V₁.iint
  exact ⟨.int _ _, Z₁, R₁, L₁⟩⟩
structure Slc (C : Cx T S) (a : AV) (lo hi : Option Int) (σ : Sig) (μ : Sto) (c : AV) : Prop where
  run : C.Ok → ∀ B s Z v vl vu (value slice : Expr), Rp C B s Z σ μ → VR s.heap Z v a → IsPart vl lo → IsPart vu hi → (∀ o i, subscripted slice false o i = operate [i, o] (getItem o i)) →
    wpAny (Md T) C.A (subscriptTail value slice v (.ref s.heap.objs.size)) (PostS C B σ μ s.heap Z c) NoE { s with heap := s.heap.push { cls := .type "slice", data := .fields #[vl, vu, .none] } }
variable {lo hi : Option Expr} {i j : Option Int} {pos' : Pos}
theorem evs_slice {a c : AV} (he : EvS C e σ μ a μ₁) (hlo : EvO C lo σ μ₁ i) (hhi : EvO C hi σ μ₁ j) (h : Slc C a i j σ μ₁ c) : EvS C (.Subscript e (.Slice lo hi none pos') pos) σ μ c μ₁ := by
  refine ⟨fun ok B s Z R => ?_⟩
  refine Subscript_ (wpAny_mono (he.run ok B s Z R) ?_ fun _ _ x => x)
  rintro v s₁ ⟨Z₁, R₁, L₁, V₁⟩
  refine wpAny_Slice (wpAny_mono (hlo.run ok B s₁ Z₁ R₁) ?_ fun _ _ x => x)
  rintro vl s₂ ⟨pl, Z₂, R₂, L₂⟩
  refine wpAny_mono (hhi.run ok B s₂ Z₂ R₂) ?_ fun _ _ x => x
  rintro vu s₃ ⟨pu, Z₃, R₃, L₃⟩
  rw [evalPart_none]
  refine wpAny_pure ?_
  exact wpAny_mono (h.run ok B s₃ Z₃ v vl vu _ _ R₃ (V₁.mono (L₂.trans L₃)) pl pu (fun _ _ => rfl)) (fun _ _ p => p.le (L₁.trans (L₂.trans L₃))) fun _ _ x => x
theorem slc_list {a : AV} {l : List AV} (h : LstAt μ a l) (hl : l.length ≤ sizeLine) : Slc C a i j σ μ (.lst (slc l i j)) := ⟨fun ok B s Z v vl vu value slice R V pl pu hs => by
  obtain ⟨x, vs, n, rfl, e, r⟩ := h.at R.toHp V
  have hL : Heap.IsList (s.heap.push { cls := .type "slice", data := .fields #[vl, vu, .none] }) x vs.toArray := (isList_of e).push _
  refine tail_any hL.typeIs list_getitem_lookup (wpAny_getItem_list_slice hL (Heap.IsSliceOf.new ..) pl pu .none (by simp) ?_ (by simpa [r.length] using hl)) (hs _ _)
  rw [slicePick_eq]
  have R₁ := (R.push { cls := .type "slice", data := .fields #[vl, vu, .none] }).pushZ ok.top (listOf (slc vs i j).toArray 0)
  refine ⟨_, R₁, (le_push _ _ _).trans (le_pushZ _ _ _ _), .lst (.inr rfl) (Heap.get?_push_size _ rfl) ((r.slc i j).mono ((le_push _ _ _).trans (le_pushZ _ _ _ _)))⟩⟩
theorem slc_str {x : List Nat} (hl : x.length ≤ sizeLine) : Slc C (.str x) i j σ μ (.str (slc x i j)) := ⟨fun ok B s Z v vl vu value slice R V pl pu hs => by
  obtain ⟨_, rfl⟩ := V.istr
  have part : ∀ {v : Value} {k : Option Int}, IsPart v k → ∃ p : Option (Int × Tok), v = PySem.partValue p ∧ p.map (·.1) = k := fun h => by
    cases h with
    | none => exact ⟨none, rfl, rfl⟩
    | int i t => exact ⟨some (i, t), rfl, rfl⟩
  obtain ⟨p, rfl, rfl⟩ := part pl
  obtain ⟨q, rfl, rfl⟩ := part pu
  refine tail_any (typeIs_str _ _ _) F.slot_str_getitem.lookup (wpAny_getItem_str_slice (l := p) (u := q) (st := none) ⟨_, Heap.get?_push_size _ rfl, rfl, rfl⟩ rfl ?_) (hs _ _)
  have hsl := slice_stv x (p.map (·.1)) (q.map (·.1))
  have R₁ := R.push { cls := .type "slice", data := .fields #[PySem.partValue p, PySem.partValue q, .none] }
  unfold PySem.sliceMade
  unfold Txt.slice at hsl
  have hle : (slc x (p.map (·.1)) (q.map (·.1))).length ≤ sizeLine := by
    refine Nat.le_trans ?_ hl
    unfold slc; rw [List.length_take, List.length_drop]; lia
  split
  · rename_i hc
    rw [if_pos (by simpa [PySem.slicePicked] using hc)] at hsl
    refine ⟨Z, R₁, le_push _ _ _, ?_⟩
    rw [hsl]; exact .str _ _
  · rename_i hc
    rw [if_neg (by simpa [PySem.slicePicked] using hc)] at hsl
    refine ⟨?_, ?_⟩
    · show Str.length _ ≤ sizeLine
      have : (⟨((PySem.slicePicked (stv x) p q none).filterMap ((stv x).cps[·]?)).toArray⟩ : Str) = stv (slc x (p.map (·.1)) (q.map (·.1))) := hsl
      rw [this]; simpa [Str.length] using hle
    · refine ⟨Z, R₁.toks _, le_push _ _ _, ?_⟩
      have : (⟨((PySem.slicePicked (stv x) p q none).filterMap ((stv x).cps[·]?)).toArray⟩ : Str) = stv (slc x (p.map (·.1)) (q.map (·.1))) := hsl
      rw [this]; exact .str _ _⟩
end
end Mine
namespace Mine
open PySem PySem.W PySem.Calls PyProof.Rows PySem.Spec
section
variable {T : TopCx} {S : FnS} {C : Cx T S} {B : Base} {s : Shared} {Z : Addr → Prop} {σ : Sig} {μ μ₁ μ₂ μ₃ : Sto} {pos : Pos} {e f : Expr} {es : List Expr} {a b c : AV} {as : List AV}
inductive PostL (C : Cx T S) (B : Base) (σ : Sig) (μ' : Sto) (h : Heap) (Z : Addr → Prop) (as : List AV) (vs : List Value) (s' : Shared) : Prop
  | mk (Z' : Addr → Prop) (R : Rp C B s' Z' σ μ') (L : Le h Z s'.heap Z') (V : VRs s'.heap Z' vs as)
structure EvL (C : Cx T S) (es : List Expr) (σ : Sig) (μ : Sto) (as : List AV) (μ' : Sto) : Prop where
  run : C.Ok → ∀ B s Z pos, Rp C B s Z σ μ → wpAny (Md T) C.A (spliced (backTo pos (starEach es C.env))) (PostL C B σ μ' s.heap Z as) NoE s
theorem evl_nil : EvL C [] σ μ [] μ := ⟨fun ok B s Z pos R => Calls.spliced_nil ⟨Z, R, Le.refl _ _, .nil⟩⟩
theorem evl_cons (h : EvS C e σ μ a μ₁) (hr : EvL C es σ μ₁ as μ₂) (hs : ∀ env, starEach (e :: es) env = (false, eval e env) :: starEach es env := by intro _; rfl) : EvL C (e :: es) σ μ (a :: as) μ₂ := by
  refine ⟨fun ok B s Z pos R => ?_⟩
  rw [hs]
  show wpAny _ _ (spliced ((false, eval e C.env) :: backTo pos (starEach es C.env))) _ _ s
  refine Calls.spliced_cons (wpAny_mono (h.run ok B s Z R) ?_ fun _ _ x => x)
  rintro v s₁ ⟨Z₁, R₁, L₁, V₁⟩
  refine wpAny_mono (hr.run ok B s₁ Z₁ pos R₁) ?_ fun _ _ x => x
  rintro vs s₂ ⟨Z₂, R₂, L₂, V₂⟩
  exact ⟨Z₂, R₂, L₁.trans L₂, .cons (V₁.mono L₂) V₂⟩
theorem ev_tuple {k : Nat} (h : EvL C es σ μ as μ₁) (hl : as.length ≤ sizeLine := by exact Nat.le_of_ble_eq_true rfl) : EvS C (.Tuple es k pos) σ μ (.tup as) μ₁ := by
  refine ⟨fun ok B s Z R => ?_⟩
  refine Tuple_ (wpAny_mono (h.run ok B s Z pos R) ?_ fun _ _ x => x)
  rintro vs s₁ ⟨Z₁, R₁, L₁, V₁⟩
  refine wpAny_newObj_type ?_ (by show vs.toArray.size ≤ sizeLine; rw [List.size_toArray, V₁.length]; exact hl)
  exact ⟨_, R₁.pushZ ok.top (tupOf vs.toArray 0), L₁.trans (le_pushZ _ _ _ _), .tup (.inr rfl) (Heap.get?_push_size _ rfl) (V₁.mono (le_pushZ _ _ _ _))⟩
theorem evn_list (h : EvL C es σ μ as μ₁) (hl : as.length ≤ sizeLine := by exact Nat.le_of_ble_eq_true rfl) : EvN C (.List es pos) σ μ as μ₁ := by
  refine ⟨fun ok B s Z R => ?_⟩
  refine List_ (wpAny_mono (h.run ok B s Z pos R) ?_ fun _ _ x => x)
  rintro vs s₁ ⟨Z₁, R₁, L₁, V₁⟩
  refine wpAny_newObj_type ?_ (by show vs.toArray.size ≤ sizeLine; rw [List.size_toArray, V₁.length]; exact hl)
  exact ⟨_, _, rfl, R₁.pushOwn V₁, L₁.trans (le_push _ _ _)⟩
theorem ev_of_evn {xs : List AV} (h : EvN C e σ μ xs μ₁) : EvS C e σ μ (.lst xs) μ₁ := by
  refine ⟨fun ok B s Z R => ?_⟩
  refine wpAny_mono (h.run ok B s Z R) ?_ fun _ _ x => x
  rintro v s₁ ⟨Z₁, l, rfl, R₁, L₁⟩
  obtain ⟨R₂, V⟩ := R₁.freezeOwn ok.top
  exact ⟨_, R₂, L₁.trans (le_zAnd _ _ _), V⟩
theorem ev_list (h : EvL C es σ μ as μ₁) (hl : as.length ≤ sizeLine := by exact Nat.le_of_ble_eq_true rfl) : EvS C (.List es pos) σ μ (.lst as) μ₁ := ev_of_evn (evn_list h hl)
structure CallA (C : Cx T S) (f : Value) (as : List AV) (σ : Sig) (μ : Sto) (c : AV) (μ' : Sto) : Prop where
  run : C.Ok → ∀ B s Z vs, Rp C B s Z σ μ → VRs s.heap Z vs as → wpAny (Md T) C.A (call f vs []) (PostS C B σ μ' s.heap Z c) NoE s
structure Keeps1 (C : Cx T S) (f : Value) (σ : Sig) (μ : Sto) : Prop where
  run : C.Ok → ∀ B s Z, Rp C B s Z σ μ → ∀ (Q : Keeper → Shared → Prop), (∀ k, Q k s) → wpAny (Md T) C.A (keeperOf f) Q NoE s
theorem keeps_builtin {id : String} : Keeps1 C (.builtin id) σ μ := ⟨fun ok B s Z R Q h => wpAny_pure (h _)⟩
theorem keeps_type {n : String} : Keeps1 C (.type n) σ μ := ⟨fun ok B s Z R Q h => wpAny_pure (h _)⟩
theorem keeps_def {x : Addr} {o : Obj} {fd : FuncData} (ho : T.hb.get? x = some o) (hd : o.data = .func fd) : Keeps1 C (.ref x) σ μ := ⟨fun ok B s Z R Q h => by
  unfold keeperOf
  refine wpAny_bind (wpAny_load (R.top _ _ ho) ?_)
  rw [hd]
  exact wpAny_pure (h _)⟩
theorem evalArgs_of {v : Value} {args : List (Bool × Sem Value)} {M : Model} {A : Around} {E : Value → Shared → Prop} {Q : Args → Shared → Prop} (hp : args.any (·.1) = false)
    (h : wpAny M A (spliced args) (fun vs s' => Q ⟨vs, []⟩ s') E s) : wpAny M A (evalArgs v true args []) Q E s := by
  cases args with
  | nil =>
    unfold evalArgs
    show wpAny M A (spliced [] >>= _) Q E s
    refine wpAny_bind (wpAny_mono h (fun vs s' h' => ?_) fun _ _ x => x)
    refine wpAny_bind (wpAny_pure ?_)
    refine wpAny_holding ?_
    exact wpAny_bind (wpAny_pure (wpAny_bind (wpAny_pure (wpAny_pure h'))))
  | cons x r =>
    obtain ⟨b, x⟩ := x
    have : b = false := by
      simp only [List.any_cons, Bool.or_eq_false_iff] at hp; exact hp.1
    subst this
    exact Calls.evalArgs_plain h
theorem callWith_any {f : Value} {pos : Pos} {first : List Value} {args : List (Bool × Sem Value)} {M : Model} {A : Around} {E : Value → Shared → Prop} {Q : Value → Shared → Prop} (hp : args.any (·.1) = false)
    (h : wpAny M A (spliced args) (fun vs s₁ => (∀ (Q' : Keeper → Shared → Prop), (∀ k, Q' k s₁) → wpAny M A (keeperOf f) Q' E s₁) ∧ wpAny M A (call f (first ++ vs) []) Q E s₁) E s) :
    wpAny M A (callWith pos f first args []) Q E s := by
  unfold callWith
  refine wpAny_bind (wpAny_holding (evalArgs_of hp (wpAny_mono h (fun vs s₁ h₁ => wpAny_bind (wpAny_standAt ?_)) fun _ _ x => x)))
  have tail : ∀ {t : Sem Value}, wpAny M A t Q E s₁ → wpAny M A (t >>= fun r => holding [r] point >>= fun _ => pure r) Q E s₁ :=
    fun ht => wpAny_bind (wpAny_mono ht (fun r s₂ hr => wpAny_bind (wpAny_holding (wpAny_point (wpAny_pure hr)))) fun _ _ x => x)
  simp only [hp, List.any_nil, Bool.or_false]
  refine wpAny_bind (h₁.1 _ fun k => ?_)
  cases k with
  | frame =>
    dsimp only
    split
    · exact tail h₁.2
    · exact tail (by unfold callMarked; exact Calls.wpAny_keep h₁.2)
  | boundFrame =>
    dsimp only
    split
    · exact tail h₁.2
    · exact tail (by unfold callMarked; exact Calls.wpAny_keep h₁.2)
  | machine => exact tail h₁.2
  | caller => exact tail (wpAny_operating h₁.2)
theorem evs_call {x : Str} {xp : Pos} {fv : Value} (hf : EvD C (.Name x xp) σ μ (.val fv)) (ha : EvL C es σ μ as μ₁) (hk : Keeps1 C fv σ μ₁) (hc : CallA C fv as σ μ₁ c μ₂)
    (hp : ∀ pos env, (backTo pos (starEach es env)).any (·.1) = false := by intro _ _; rfl) : EvS C (.Call (.Name x xp) es [] pos) σ μ c μ₂ := by
  refine ⟨fun ok B s Z R => ?_⟩
  refine wpAny_Call_Name_kw (wpAny_mono (hf.run ok B s Z R) ?_ fun _ _ x => x)
  rintro v s₁ ⟨Z₁, R₁, L₁, V₁⟩
  obtain rfl := V₁.ival
  show wpAny _ _ (callWith pos _ [] (backTo pos (starEach es C.env)) []) _ _ _
  refine callWith_any (hp _ _) (wpAny_mono (ha.run ok B s₁ Z₁ pos R₁) ?_ fun _ _ x => x)
  rintro vs s₂ ⟨Z₂, R₂, L₂, V₂⟩
  exact ⟨fun Q' h => hk.run ok B s₂ Z₂ R₂ Q' h, wpAny_mono (hc.run ok B s₂ Z₂ vs R₂ V₂) (fun _ _ p => p.le (L₁.trans L₂)) fun _ _ x => x⟩
structure MethT (T name id) : Prop where
  pa : PlainAttrs T
  slot : Slot T name id
  ty : typeOf (.builtin id) = pure (.type "method_descriptor")
noncomputable def IsOf (C : Cx T S) (a : AV) (n : String) (σ : Sig) (μ : Sto) : Prop :=
  ∀ B s Z v, Rp C B s Z σ μ → VR s.heap Z v a → s.TypeIs v n ∧ ∀ x, v = .ref x → ∃ o, s.heap.get? x = some o ∧ o.dict = none
theorem isOf_str {x : List Nat} : IsOf C (.str x) "str" σ μ := fun B s Z v R V => by
  obtain ⟨_, rfl⟩ := V.istr; exact ⟨typeIs_str _ _ _, fun x e => nomatch e⟩
theorem isOf_list {a : AV} {l : List AV} (h : LstAt μ a l) : IsOf C a "list" σ μ := fun B s Z v R V => by
  obtain ⟨x, vs, n, rfl, e, r⟩ := h.at R.toHp V
  exact ⟨(isList_of e).typeIs, fun y q => by cases q; exact ⟨_, e, rfl⟩⟩
theorem evs_meth {o : Expr} {name : Str} {apos : Pos} {n id : String} (ho : EvS C o σ μ a μ₁) (hT : IsOf C a n σ μ₁) (M : MethT n name id) (ha : EvL C es σ μ₁ as μ₂) (hc : CallA C (.builtin id) (a :: as) σ μ₂ c μ₃)
    (hbase : ∀ env, attributeBase o name env (eval o env) = eval o env := by intro _; rfl)
    (hfew : ∀ pos env, ((backTo pos (starEach es env)).all (fun x => !x.1) && (backToKw pos (keywordEach [] env)).all (fun x => x.1.isSome)
      && decide (es.length + ([] : List Keyword).length + (if ([] : List Keyword).isEmpty then 0 else 1) < 30)) = true := by intro _ _; rfl)
    (hline : (apos.endLine == pos.line) = true := by rfl)
    (hp : ∀ pos env, (backTo pos (starEach es env)).any (·.1) = false := by intro _ _; rfl) : EvS C (.Call (.Attribute o name apos) es [] pos) σ μ c μ₃ := by
  refine ⟨fun ok B s Z R => ?_⟩
  refine wpAny_Call_method (hbase _) (hfew _ _) hline M.pa M.slot M.ty (wpAny_mono (ho.run ok B s Z R) ?_ fun _ _ x => x)
  rintro v s₁ ⟨Z₁, R₁, L₁, V₁⟩
  obtain ⟨h1, h2⟩ := hT B s₁ Z₁ v R₁ V₁
  refine ⟨h1, h2, ?_⟩
  refine callWith_any (hp _ _) (wpAny_mono (ha.run ok B s₁ Z₁ pos R₁) ?_ fun _ _ x => x)
  rintro vs s₂ ⟨Z₂, R₂, L₂, V₂⟩
  exact ⟨fun Q' h => wpAny_pure (h _), wpAny_mono (hc.run ok B s₂ Z₂ (v :: vs) R₂ (.cons (V₁.mono L₂) V₂)) (fun _ _ p => p.le (L₁.trans L₂)) fun _ _ x => x⟩
theorem ca_len_str {x : List Nat} (hl : x.length < 2 ^ 62) : CallA C (.builtin "len") [.str x] σ μ (.int x.length) μ := ⟨fun ok B s Z vs R V => by
  obtain ⟨_, rfl, V1⟩ := V.i1; obtain ⟨_, rfl⟩ := V1.istr; exact PyProof.Rows.len_str (by simp [Str.length]; lia) (by
    have : ((stv x).length : Int) = x.length := by simp [Str.length]
    rw [this]; exact PostS.tok R _ (.int _ _))⟩
theorem ca_len_list {a : AV} {l : List AV} (h : LstAt μ a l) (hl : l.length < 2 ^ 62) : CallA C (.builtin "len") [a] σ μ (.int l.length) μ := ⟨fun ok B s Z vs R V => by
  obtain ⟨_, rfl, V1⟩ := V.i1
  obtain ⟨x, vs, n, rfl, e, r⟩ := h.at R.toHp V1
  have hlen := r.length
  refine PyProof.Rows.len_list (isList_of e) (by simp; lia) ?_
  have : (vs.toArray.size : Int) = l.length := by simp [hlen]
  rw [this]; exact PostS.tok R _ (.int _ _)⟩
theorem m_append : MethT "list" "append" "list.append" := ⟨PySem.F.plainAttrs_list, slot_list_append, type_list_append⟩
theorem ca_append {x : Addr} {l : List AV} {μ' : Sto} (hm : (x, l) ∈ μ) (U : Up x (List AV) (l ++ [a]) μ μ') (hl : l.length < sizeLine) : CallA C (.builtin "list.append") [.own x, a] σ μ .none μ' := ⟨fun ok B s Z vs R V => by
  obtain ⟨_, _, rfl, V1, W⟩ := V.i2
  obtain rfl := V1.iown
  obtain ⟨h1, h2, h3, vs, n, e, r⟩ := R.own _ hm
  have hlen : vs.length = l.length := r.length
  refine append_at e (fun h' hs ho => ?_) (by rw [List.size_toArray]; lia)
  rw [List.push_toArray] at ho
  obtain ⟨R', L⟩ := R.setOwn ok.top U hs.extBut ho (r.append (.one W))
  exact ⟨Z, R', L, .none⟩⟩
theorem m_pop : MethT "list" "pop" "list.pop" := ⟨PySem.F.plainAttrs_list, PySem.F.slot_list_pop, PySem.F.type_list_pop⟩
theorem ca_pop {x : Addr} {l : List AV} {μ' : Sto} (hm : (x, l ++ [a]) ∈ μ) (U : Up x (List AV) l μ μ') (hl : l.length < sizeLine) : CallA C (.builtin "list.pop") [.own x] σ μ a μ' := ⟨fun ok B s Z vs R V => by
  obtain ⟨_, rfl, V1⟩ := V.i1
  obtain rfl := V1.iown
  obtain ⟨h1, h2, h3, vs, n, e, r⟩ := R.own _ hm
  have hlen : vs.length = l.length + 1 := by have := r.length; simpa using this
  obtain ⟨v, hv, Vv⟩ := r.get (k := l.length) (a := a) (by simp)
  have hvs : vs = vs.take l.length ++ [v] := by
    have h1 : vs.take l.length ++ vs.drop l.length = vs := List.take_append_drop _ _
    have h2 : vs.drop l.length = [v] := by
      obtain ⟨hlt, hv'⟩ := List.getElem?_eq_some_iff.mp hv
      rw [List.drop_eq_getElem_cons hlt, hv', List.drop_of_length_le (by lia)]
    rw [h2] at h1; exact h1.symm
  have hz : vs.toArray.size ≤ sizeLine := by rw [List.size_toArray]; lia
  have hk : vs.toArray.size - 1 = l.length := by rw [List.size_toArray]; lia
  refine call_meets PySem.F.slot_list_pop ⟨_, e, rfl⟩ PySem.F.entry_list_pop (PySem.F.args_list_pop_1 _) (PySem.MeetsSeq.list_pop_last x _ n v (by rw [hk]; simpa using hv) hz) ⟨e, ?_⟩
  have q := PySem.IsL.update e (fun xs => xs.eraseIdxIfInBounds (vs.toArray.size - 1))
  have he : vs.toArray.eraseIdxIfInBounds (vs.toArray.size - 1) = (vs.take l.length).toArray := by
    rw [hk]
    apply Array.toList_inj.mp
    unfold Array.eraseIdxIfInBounds
    rw [dif_pos (by rw [List.size_toArray]; lia)]
    rw [Array.toList_eraseIdx]
    show vs.eraseIdx l.length = vs.take l.length
    conv => lhs; rw [hvs]
    rw [List.eraseIdx_append_of_length_le (by rw [List.length_take]; lia)]
    have : l.length - (vs.take l.length).length = 0 := by rw [List.length_take]; lia
    rw [this]; simp
  rw [he] at q
  obtain ⟨R', L⟩ := R.setOwn ok.top U (Heap.SameBut.update ..).extBut q (by have := r.take l.length; simpa using this)
  exact ⟨Z, R', L, Vv.mono L⟩⟩
end
end Mine
namespace Mine
open PySem PySem.W PySem.Calls PyProof.Rows PySem.Spec
inductive AF where
  | next | brk | cont | ret (a : AV)
inductive FR (h : Heap) (Z : Addr → Prop) : Flow → AF → Prop
  | next : FR h Z .next .next
  | brk : FR h Z .brk .brk
  | cont : FR h Z .cont .cont
  | ret {v a} : VR h Z v a → FR h Z (.ret v) (.ret a)
section
variable {T : TopCx} {S : FnS}
inductive PostX (C : Cx T S) (B : Base) (h : Heap) (Z : Addr → Prop) (K : AF → Sig → Sto → Prop) (fl : Flow) (s' : Shared) : Prop
  | mk (Z' : Addr → Prop) (σ' : Sig) (μ' : Sto) (f : AF) (R : Rp C B s' Z' σ' μ') (L : Le h Z s'.heap Z') (F : FR s'.heap Z' fl f) (k : K f σ' μ')
inductive PostA (C : Cx T S) (B : Base) (h : Heap) (Z : Addr → Prop) (K : Sig → Sto → Prop) (s' : Shared) : Prop
  | mk (Z' : Addr → Prop) (σ' : Sig) (μ' : Sto) (R : Rp C B s' Z' σ' μ') (L : Le h Z s'.heap Z') (k : K σ' μ')
structure Ex (C : Cx T S) (st : List Stmt) (σ : Sig) (μ : Sto) (K : AF → Sig → Sto → Prop) : Prop where
  run : C.Ok → ∀ B s Z, Rp C B s Z σ μ → wpAny (Md T) C.A (execs st C.env) (PostX C B s.heap Z K) NoE s
structure Ex1 (C : Cx T S) (st : Stmt) (σ : Sig) (μ : Sto) (K : AF → Sig → Sto → Prop) : Prop where
  run : C.Ok → ∀ B s Z, Rp C B s Z σ μ → wpAny (Md T) C.A (exec st C.env) (PostX C B s.heap Z K) NoE s
structure Asg (C : Cx T S) (t : Expr) (a : AV) (σ : Sig) (μ : Sto) (K : Sig → Sto → Prop) : Prop where
  run : C.Ok → ∀ B s Z v, Rp C B s Z σ μ → VR s.heap Z v a → wpAny (Md T) C.A (assign t C.env v) (fun _ => PostA C B s.heap Z K) NoE s
variable {C : Cx T S} {B : Base} {s s₁ s' : Shared} {Z Z₁ Z' : Addr → Prop} {σ σ' : Sig} {μ μ' μ₁ μ₂ : Sto} {e f t : Expr} {st : Stmt} {rest body orelse : List Stmt} {a b c : AV} {pos pos' p1 p2 : Pos} {K K' : AF → Sig → Sto → Prop}
theorem PostX.le {h h₁ : Heap} {fl : Flow} (L : Le h Z h₁ Z₁) (p : PostX C B h₁ Z₁ K fl s') : PostX C B h Z K fl s' :=
  let ⟨Z', σ', μ', f, R, L', F, k⟩ := p; ⟨Z', σ', μ', f, R, L.trans L', F, k⟩
theorem PostX.mono {h : Heap} {fl : Flow} (p : PostX C B h Z K fl s') (k : ∀ f σ μ, K f σ μ → K' f σ μ) : PostX C B h Z K' fl s' :=
  let ⟨Z', σ', μ', f, R, L', F, q⟩ := p; ⟨Z', σ', μ', f, R, L', F, k _ _ _ q⟩
theorem Ex.mono (h : Ex C rest σ μ K) (k : ∀ f σ μ, K f σ μ → K' f σ μ) : Ex C rest σ μ K' := ⟨fun ok B s Z R => wpAny_mono (h.run ok B s Z R) (fun _ _ p => p.mono k) fun _ _ x => x⟩
theorem ex_nil (h : K .next σ μ) : Ex C [] σ μ K := ⟨fun ok B s Z R => wpAny_execs_nil ⟨Z, σ, μ, .next, R, Le.refl _ _, .next, h⟩⟩
noncomputable def Then (C : Cx T S) (rest : List Stmt) (K : AF → Sig → Sto → Prop) : AF → Sig → Sto → Prop := fun f σ μ => match f with
  | .next => Ex C rest σ μ K
  | f => K f σ μ
theorem ex_cons (h : Ex1 C st σ μ (Then C rest K)) : Ex C (st :: rest) σ μ K := by
  refine ⟨fun ok B s Z R => ?_⟩
  refine wpAny_execs_cons (wpAny_mono (h.run ok B s Z R) ?_ fun _ _ x => x)
  rintro fl s₁ ⟨Z₁, σ₁, μ₁, f, R₁, L₁, F₁, k⟩
  cases F₁ with
  | next => exact wpAny_mono (k.run ok B s₁ Z₁ R₁) (fun _ _ p => p.le L₁) fun _ _ x => x
  | brk => exact ⟨Z₁, σ₁, μ₁, _, R₁, L₁, .brk, k⟩
  | cont => exact ⟨Z₁, σ₁, μ₁, _, R₁, L₁, .cont, k⟩
  | ret V => exact ⟨Z₁, σ₁, μ₁, _, R₁, L₁, .ret V, k⟩
theorem kind_of (R : Rp C B s Z σ μ) {x : Str} (hx : x ∈ σ.map (·.1)) : (x, false) ∈ S.names ∨ (x, true) ∈ S.names := by
  rw [R.keys] at hx
  obtain ⟨⟨y, cl⟩, hp, rfl⟩ := List.mem_map.mp hx
  cases cl with
  | false => exact .inl hp
  | true => exact .inr hp
theorem store_rw (ok : C.Ok) {x : Str} (hro : S.rw x) (R : Rp C B s Z σ μ) {v : Value} (U : Up x AV a σ σ') (V : VR s.heap Z v a) :
    wpAny (Md T) C.A (storeName C.env x v) (fun _ s' => Rp C B s' Z σ' μ ∧ Le s.heap Z s'.heap Z) NoE s := by
  rcases kind_of R U.here with hk | hk
  · obtain ⟨m, hn, hr⟩ := R.ns
    refine wpAny_storeName_local ((ok.names _ hk).1 rfl) hn (fun h' hn' hs => ?_) (by rw [ok.kind]; rfl)
    obtain ⟨R', L⟩ := R.setLocal ok U hn hr hn' hs.extBut hk V
    exact ⟨R'.toks _, L⟩
  · obtain ⟨hkc, c, hc⟩ := (ok.names _ hk).2 rfl
    obtain ⟨_, _, _, v₀, hcell, _⟩ := R.cel _ _ hc
    refine wpAny_storeName_cell ok.kind hkc hc hcell fun h' hn' hs => ?_
    exact R.setCell ok hro U hc hn' hs.extBut hk V
theorem store_name (ok : C.Ok) (hro : S.ro = false) (R : Rp C B s Z σ μ) {x : Str} {v : Value} (U : Up x AV a σ σ') (V : VR s.heap Z v a) :
    wpAny (Md T) C.A (storeName C.env x v) (fun _ s' => Rp C B s' Z σ' μ ∧ Le s.heap Z s'.heap Z) NoE s := store_rw ok (.inl hro) R U V
theorem store_local (ok : C.Ok) (R : Rp C B s Z σ μ) {x : Str} {v : Value} (hx : (x, false) ∈ S.names) (U : Up x AV a σ σ') (V : VR s.heap Z v a) :
    wpAny (Md T) C.A (storeName C.env x v) (fun _ s' => Rp C B s' Z σ' μ ∧ Le s.heap Z s'.heap Z) NoE s := by
  obtain ⟨m, hn, hr⟩ := R.ns
  refine wpAny_storeName_local ((ok.names _ hx).1 rfl) hn (fun h' hn' hs => ?_) (by rw [ok.kind]; rfl)
  obtain ⟨R', L⟩ := R.setLocal ok U hn hr hn' hs.extBut hx V
  exact ⟨R'.toks _, L⟩
theorem asg_local {x : Str} {K : Sig → Sto → Prop} (hx : (x, false) ∈ S.names) (U : Up x AV a σ σ') (h : K σ' μ) : Asg C (.Name x pos) a σ μ K := by
  refine ⟨fun ok B s Z v R V => ?_⟩
  refine wpAny_assign_Name (wpAny_mono (store_local ok R hx U V) ?_ fun _ _ x => x)
  rintro _ s' ⟨R', L⟩
  exact ⟨Z, σ', μ, R', L, h⟩
theorem asg_cell {x : Str} {K : Sig → Sto → Prop} (hx : x ∈ S.own) (U : Up x AV a σ σ') (h : K σ' μ) : Asg C (.Name x pos) a σ μ K := by
  refine ⟨fun ok B s Z v R V => ?_⟩
  refine wpAny_assign_Name (wpAny_mono (store_rw ok (.inr hx) R U V) ?_ fun _ _ x => x)
  rintro _ s' ⟨R', L⟩
  exact ⟨Z, σ', μ, R', L, h⟩
theorem asg_name {x : Str} {K : Sig → Sto → Prop} (U : Up x AV a σ σ') (h : K σ' μ) (hro : S.ro = false := by rfl) : Asg C (.Name x pos) a σ μ K := by
  refine ⟨fun ok B s Z v R V => ?_⟩
  refine wpAny_assign_Name (wpAny_mono (store_name ok hro R U V) ?_ fun _ _ x => x)
  rintro _ s' ⟨R', L⟩
  exact ⟨Z, σ', μ, R', L, h⟩
theorem ex_assign {x : Str} (he : EvS C e σ μ a μ₁) (U : Up x AV a σ σ') (h : Ex C rest σ' μ₁ K) (hs : ∀ env, swapsWith e (some (.Name x p1)) pos.line env = pure false := by intro _; rfl) (hro : S.ro = false := by rfl) :
    Ex C (.Assign [.Name x p1] e pos :: rest) σ μ K := by
  refine ex_cons ⟨fun ok B s Z R => ?_⟩
  refine wpAny_Assign_Name (wpAny_mono (he.run ok B s Z R) ?_ fun _ _ x => x) (hs _)
  rintro v s₁ ⟨Z₁, R₁, L₁, V₁⟩
  refine wpAny_mono (store_name ok hro R₁ U V₁) ?_ fun _ _ x => x
  rintro _ s₂ ⟨R₂, L₂⟩
  exact ⟨Z₁, σ', μ₁, .next, R₂, L₁.trans L₂, .next, h⟩
theorem ex_assignN {x : Str} {xs : List AV} {σ' : Addr → Sig} (he : EvN C e σ μ xs μ₁) (U : ∀ l, Up x AV (.own l) σ (σ' l)) (h : ∀ l, Ex C rest (σ' l) ((l, xs) :: μ₁) K) (hs : ∀ env, swapsWith e (some (.Name x p1)) pos.line env = pure false := by intro _; rfl) (hro : S.ro = false := by rfl) :
    Ex C (.Assign [.Name x p1] e pos :: rest) σ μ K := by
  refine ex_cons ⟨fun ok B s Z R => ?_⟩
  refine wpAny_Assign_Name (wpAny_mono (he.run ok B s Z R) ?_ fun _ _ x => x) (hs _)
  rintro v s₁ ⟨Z₁, l, rfl, R₁, L₁⟩
  refine wpAny_mono (store_name ok hro R₁ (U l) (.own l)) ?_ fun _ _ x => x
  rintro _ s₂ ⟨R₂, L₂⟩
  exact ⟨Z₁, σ' l, (l, xs) :: μ₁, .next, R₂, L₁.trans L₂, .next, h l⟩
theorem ex_aug_int {x : Str} {i j : Int} (hx : (x, .int i) ∈ σ) (he : EvD C e σ μ (.int j)) (U : Up x AV (.int (i + j)) σ σ') (h : Ex C rest σ' μ K) (hro : S.ro = false := by rfl) :
    Ex C (.AugAssign (.Name x p1) .Add e pos :: rest) σ μ K := by
  refine ex_cons ⟨fun ok B s Z R => ?_⟩
  refine wpAny_AugAssign_Name (wpAny_mono (load_name ok R hx rfl) ?_ fun _ _ x => x)
  rintro v s₁ ⟨Z₁, R₁, L₁, V₁⟩
  refine wpAny_mono (he.run ok B s₁ Z₁ R₁) ?_ fun _ _ x => x
  rintro w s₂ ⟨Z₂, R₂, L₂, V₂⟩
  obtain ⟨_, rfl⟩ := V₁.iint; obtain ⟨_, rfl⟩ := V₂.iint
  refine PyProof.Rows.iadd_int ?_
  refine wpAny_mono (store_name ok hro (R₂.toks _) U (.int _ _)) ?_ fun _ _ x => x
  rintro _ s₃ ⟨R₃, L₃⟩
  exact ⟨Z₂, σ', μ, .next, R₃, L₁.trans (L₂.trans L₃), .next, h⟩
theorem ex_ret (he : EvS C e σ μ a μ₁) (h : K (.ret a) σ μ₁) : Ex C (.Return (some e) pos :: rest) σ μ K := by
  refine ex_cons ⟨fun ok B s Z R => ?_⟩
  refine wpAny_Return_some (wpAny_mono (he.run ok B s Z R) ?_ fun _ _ x => x)
  rintro v s₁ ⟨Z₁, R₁, L₁, V₁⟩
  exact ⟨Z₁, σ, μ₁, .ret a, R₁, L₁, .ret V₁, h⟩
theorem ex_brk (h : K .brk σ μ) : Ex C (.Break pos :: rest) σ μ K := ex_cons ⟨fun ok B s Z R => wpAny_bind (wpAny_standAt (wpAny_pure ⟨Z, σ, μ, .brk, R, Le.refl _ _, .brk, h⟩))⟩
theorem ex_cont (h : K .cont σ μ) : Ex C (.Continue pos :: rest) σ μ K := ex_cons ⟨fun ok B s Z R => wpAny_bind (wpAny_standAt (wpAny_pure ⟨Z, σ, μ, .cont, R, Le.refl _ _, .cont, h⟩))⟩
theorem ex_expr (he : EvS C e σ μ .none μ₁) (h : Ex C rest σ μ₁ K) (hi : interactive C.env = false) (hs : ∀ env, swapsWith e none pos.line env = pure false := by intro _; rfl) : Ex C (.Expr e pos :: rest) σ μ K := by
  refine ex_cons ⟨fun ok B s Z R => ?_⟩
  refine wpAny_Expr (wpAny_mono (he.run ok B s Z R) ?_ fun _ _ x => x) hi (hs _)
  rintro v s₁ ⟨Z₁, R₁, L₁, V₁⟩
  obtain rfl := V₁.inone
  exact ⟨Z₁, σ, μ₁, .next, R₁, L₁, .next, h⟩
theorem ex1_if {b : Bool} (ht : EvT C t σ μ b μ₁) (h1 : b = true → Ex C body σ μ₁ K) (h2 : b = false → Ex C orelse σ μ₁ K) : Ex1 C (.If t body orelse pos) σ μ K := by
  refine ⟨fun ok B s Z R => ?_⟩
  refine wpAny_If (wpAny_mono (ht.run ok B s Z R) ?_ fun _ _ x => x)
  rintro c s₁ ⟨rfl, Z₁, R₁, L₁⟩
  cases c with
  | true => exact wpAny_mono ((h1 rfl).run ok B s₁ Z₁ R₁) (fun _ _ p => p.le L₁) fun _ _ x => x
  | false => exact wpAny_mono ((h2 rfl).run ok B s₁ Z₁ R₁) (fun _ _ p => p.le L₁) fun _ _ x => x
theorem ex_if {b : Bool} (ht : EvT C t σ μ b μ₁) (h1 : b = true → Ex C body σ μ₁ (Then C rest K)) (h2 : b = false → Ex C orelse σ μ₁ (Then C rest K)) : Ex C (.If t body orelse pos :: rest) σ μ K := ex_cons (ex1_if ht h1 h2)
theorem ex_assert (ht : EvT C t σ μ true μ₁) (h : Ex C rest σ μ₁ K) {msg : Option Expr} : Ex C (.Assert t msg pos :: rest) σ μ K := by
  refine ex_cons ⟨fun ok B s Z R => ?_⟩
  show wpAny _ _ (standAt pos >>= _) _ _ s
  refine wpAny_bind (wpAny_standAt (wpAny_bind (wpAny_mono (ht.run ok B s Z R) ?_ fun _ _ x => x)))
  rintro c s₁ ⟨rfl, Z₁, R₁, L₁⟩
  exact wpAny_pure ⟨Z₁, σ, μ₁, .next, R₁, L₁, .next, h⟩
noncomputable def KLoop (I : Nat → Sig → Sto → Prop) (n : Nat) (K : AF → Sig → Sto → Prop) : AF → Sig → Sto → Prop := fun f σ μ => match f with
  | .next | .cont => ∃ m, m < n ∧ I m σ μ
  | .brk => K .next σ μ
  | .ret a => K (.ret a) σ μ
theorem ex1_while (I : Nat → Sig → Sto → Prop) {n : Nat} (h : I n σ μ)
    (turn : ∀ n σ μ, I n σ μ → ∃ b, EvT C t σ μ b μ ∧ (b = true → Ex C body σ μ (KLoop I n K)) ∧ (b = false → Ex C orelse σ μ K)) : Ex1 C (.While t body orelse pos) σ μ K := by
  refine ⟨fun ok B s Z R => ?_⟩
  refine wpAny_While (codeAny_whileLoop (fun n => PostA C B s.heap Z (I n)) ?_ n ⟨Z, σ, μ, R, Le.refl _ _, h⟩)
  rintro n s₁ ⟨Z₁, σ₁, μ₁, R₁, L₁, i⟩
  obtain ⟨b, ht, h1, h2⟩ := turn n σ₁ μ₁ i
  refine wpAny_mono (ht.run ok B s₁ Z₁ R₁) ?_ fun _ _ x => x.elim
  rintro c s₂ ⟨rfl, Z₂, R₂, L₂⟩
  cases c with
  | true =>
    refine wpAny_mono ((h1 rfl).run ok B s₂ Z₂ R₂) ?_ fun _ _ x => x.elim
    rintro fl s₃ ⟨Z₃, σ₃, μ₃, f, R₃, L₃, F₃, k⟩
    have L := L₁.trans (L₂.trans L₃)
    cases F₃ with
    | next => obtain ⟨m, hm, i⟩ := k; exact ⟨m, hm, Z₃, σ₃, μ₃, R₃, L, i⟩
    | cont => obtain ⟨m, hm, i⟩ := k; exact ⟨m, hm, Z₃, σ₃, μ₃, R₃, L, i⟩
    | brk => exact ⟨Z₃, σ₃, μ₃, .next, R₃, L, .next, k⟩
    | ret V => exact ⟨Z₃, σ₃, μ₃, .ret _, R₃, L, .ret V, k⟩
  | false => exact wpAny_mono ((h2 rfl).run ok B s₂ Z₂ R₂) (fun _ _ p => p.le (L₁.trans L₂)) fun _ _ x => x.elim
theorem ex_while (I : Nat → Sig → Sto → Prop) {n : Nat} (h : I n σ μ)
    (turn : ∀ n σ μ, I n σ μ → ∃ b, EvT C t σ μ b μ ∧ (b = true → Ex C body σ μ (KLoop I n (Then C rest K))) ∧ (b = false → Ex C orelse σ μ (Then C rest K))) : Ex C (.While t body orelse pos :: rest) σ μ K := ex_cons (ex1_while I h turn)
noncomputable def Cx.mut (C : Cx T S) (μ : Sto) (a : Addr) : Prop := a = C.env.locals ∨ (∃ x, S.rw x ∧ C.env.cells.lookup x = some a) ∨ ∃ p ∈ μ, p.1 = a
noncomputable def Cx.base (C : Cx T S) (s : Shared) (Z : Addr → Prop) (μ : Sto) : Base := ⟨s.heap, Z, C.mut μ⟩
theorem Ns_keepO {h h' : Heap} {a : Addr} {m} (hn : h.Ns a m) (k : ∀ o, h.get? a = some o → ∃ o', h'.get? a = some o' ∧ KeepO o o') : h'.Ns a m := by
  obtain ⟨o, es, ep, ho, hd, r⟩ := hn
  obtain ⟨o', ho', q⟩ := k o ho
  refine ⟨o', es, ep, ho', q.data.trans hd, ?_⟩
  exact r
theorem Rp.rebase (R : Rp C B s Z σ μ) : Rp C (C.base s Z μ) s Z σ μ where
  top := R.top
  tab := R.tab
  os := R.os
  gens := R.gens
  tk := R.tk
  keep a o e _ _ := ⟨o, e, .refl o⟩
  z0 a z := z
  zn a z := .inl z
  zok := R.zok
  own p hp := let ⟨h1, h2, h3, r⟩ := R.own p hp; ⟨h1, h2, .inl (.inr (.inr ⟨p, hp, rfl⟩)), r⟩
  nd := R.nd
  keys := R.keys
  frs := by
    obtain ⟨l, hl, k⟩ := R.frs
    refine ⟨l, hl, fun env he => ?_⟩
    obtain ⟨h1, L, h2, h3, h4⟩ := k env he
    refine ⟨h1, L, h2, h3, ?_⟩
    by_cases hL : L = C.env.locals
    · exact .inl hL
    · obtain ⟨hD, ht, o, es, ep, ho, hd⟩ := h4.resolve_left hL
      obtain ⟨o', ho', q⟩ := R.keep L o ho hD ht
      have nn : ∀ {P : Prop}, (B.D L ∨ B.h.get? L = none) → P := fun h => h.elim (fun d => absurd d hD) fun n => by rw [n] at ho; cases ho
      refine .inr ⟨fun d => ?_, ht, o', es, ep, ho', q.data.trans hd⟩
      rcases d with e | ⟨x, hro, e⟩ | ⟨p, hp, e⟩
      · exact hL e
      · exact nn ((R.cel x L e).2.1 hro)
      · obtain ⟨_, _, h3, _⟩ := R.own p hp
        rw [e] at h3; exact nn h3
  loc := ⟨R.loc.big, R.loc.nz, R.loc.nm, .inl (.inl rfl)⟩
  ns := R.ns
  cel x c e := let ⟨h1, _, h2⟩ := R.cel x c e; ⟨h1, fun hro => .inl (.inr (.inl ⟨x, hro, e⟩)), h2⟩
theorem Rp.mut_new (R : Rp C B s Z σ μ) {a : Addr} (h : C.mut μ a) : Own1 T B Z [] a := by
  rcases h with rfl | ⟨x, hro, e⟩ | ⟨p, hp, rfl⟩
  · exact ⟨R.loc.big, R.loc.nz, fun _ h => (nomatch h), R.loc.new⟩
  · obtain ⟨h, h0, _⟩ := R.cel x a e; exact ⟨h.big, h.nz, fun _ h => (nomatch h), h0 hro⟩
  · obtain ⟨h1, h2, h3, _⟩ := R.own p hp; exact ⟨h2, h1, fun _ h => (nomatch h), h3⟩
theorem Hp.old_new (R : Hp T B s Z μ) {a : Addr} (h : s.heap.get? a = none) : B.D a ∨ B.h.get? a = none := by
  by_cases hd : B.D a
  · exact .inl hd
  · refine .inr ?_
    cases q : B.h.get? a with
    | none => rfl
    | some o =>
      have ht : a ≠ tabA := fun e => by
        obtain ⟨ps, e', _⟩ := R.tab
        rw [e, e'] at h; cases h
      obtain ⟨o', e', _⟩ := R.keep _ _ q hd ht
      rw [e'] at h; cases h
theorem Rp.debase (R : Rp C B s Z σ μ) (R' : Rp C (C.base s Z μ) s' Z' σ' μ') : Rp C B s' Z' σ' μ' where
  top := R'.top
  tab := R'.tab
  os := R'.os
  gens := R'.gens
  tk := R'.tk
  keep a o e h1 h2 := by
    obtain ⟨o', e', q⟩ := R.keep a o e h1 h2
    obtain ⟨o'', e'', q'⟩ := R'.keep a o' e' (fun d => (R.mut_new d).new.elim h1 fun n => by rw [n] at e; cases e) h2
    exact ⟨o'', e'', q.trans q'⟩
  z0 a z := R'.z0 a (R.z0 a z)
  zn a z := (R'.zn a z).elim (fun z => R.zn a z) fun h => .inr (h.elim (fun d => (R.mut_new d).new) fun n => R.toHp.old_new n)
  zok := R'.zok
  own p hp := let ⟨h1, h2, h3, r⟩ := R'.own p hp; ⟨h1, h2, h3.elim (fun d => (R.mut_new d).new) fun n => R.toHp.old_new n, r⟩
  nd := R'.nd
  keys := R'.keys
  frs := R.frs
  loc := ⟨R'.loc.big, R'.loc.nz, R'.loc.nm, R.loc.new⟩
  ns := R'.ns
  cel x c e := let ⟨h1, _, h2⟩ := R'.cel x c e; let ⟨_, g0, _⟩ := R.cel x c e; ⟨h1, g0, h2⟩
structure Alone (C : Cx T S) (B : Base) (s : Shared) (Z : Addr → Prop) (μ : Sto) (I : Addr) : Prop where
  own : Own1 T B Z μ I
  nl : C.env.locals ≠ I
  nc : ∀ x c, C.env.cells.lookup x = some c → c ≠ I
  here : ∃ o, s.heap.get? I = some o
theorem Alone.nmut (X : Alone C B s Z μ I) : ¬ C.mut μ I := fun h => by
  rcases h with e | ⟨x, _, e⟩ | ⟨p, hp, e⟩
  · exact X.nl e.symm
  · exact X.nc x I e rfl
  · exact X.own.nm p hp e
theorem Alone.through (X : Alone C B s Z μ I) (R : Rp C B s Z σ μ) (R' : Rp C (C.base s Z μ) s' Z' σ' μ') : Alone C B s' Z' μ' I := by
  have nm := X.nmut
  obtain ⟨o, ho⟩ := X.here
  obtain ⟨o', ho', _⟩ := R'.keep I o ho nm X.own.big.2
  refine ⟨⟨X.own.big, fun z => ?_, fun p hp e => ?_, X.own.new⟩, X.nl, X.nc, o', ho'⟩
  · rcases R'.zn I z with z | d | n
    · exact X.own.nz z
    · exact nm d
    · rw [show s.heap.get? I = none from n] at ho; cases ho
  · obtain ⟨_, _, h3, _⟩ := R'.own p hp
    rw [e] at h3
    rcases h3 with d | n
    · exact nm d
    · rw [show s.heap.get? I = none from n] at ho; cases ho
theorem Alone.keptO (X : Alone C B s Z μ I) (R' : Rp C (C.base s Z μ) s' Z' σ' μ') {o : Obj} (ho : s.heap.get? I = some o) : ∃ o', s'.heap.get? I = some o' ∧ KeepO o o' := R'.keep I o ho X.nmut X.own.big.2
theorem Alone.kept (X : Alone C B s Z μ I) (R' : Rp C (C.base s Z μ) s' Z' σ' μ') {o : Obj} (ho : s.heap.get? I = some o) (n : Nd o) : s'.heap.get? I = some o := by
  obtain ⟨o', e, k⟩ := X.keptO R' ho
  rw [k.eq n] at e; exact e
theorem Rp.alone (R : Rp C B s Z σ μ) (o : Obj) (hf : o.isFreed = false := by rfl) : Alone C B { s with heap := s.heap.push o } Z μ s.heap.objs.size :=
  ⟨⟨R.fresh.1, fun z => ltne (R.z_lt z) rfl, fun p hp e => ltne (R.own_lt hp) e, R.fresh.2⟩, fun e => ltne R.loc_lt e, fun x c e q => ltne (R.cel_lt e) q, o, Heap.get?_push_size _ hf⟩
theorem Rp.stepI (ok : C.Ok) (R : Rp C B s Z σ μ) {I : Addr} (X : Alone C B s Z μ I) {h' : Heap} {tk : Nat} (ht : s.toks ≤ tk) (hs : ∀ b o, b ∉ [I] → s.heap.get? b = some o → h'.get? b = some o) :
    Rp C B { s with heap := h', toks := tk } Z σ μ ∧ Le s.heap Z h' Z := by
  obtain ⟨R', L⟩ := R.off ok.top X.own X.nl X.nc (h' := h') fun b o h e => hs b o (by simpa using h) e
  exact ⟨R'.toks _ (Nat.lt_of_lt_of_le R.tk ht), L⟩
end
end Mine
namespace Mine
open PySem PySem.W PySem.Calls PyProof.Rows PySem.Spec
section
variable {T : TopCx} {S : FnS} {C : Cx T S} {B : Base} {s s' : Shared} {Z Z' : Addr → Prop} {σ σ' : Sig} {μ μ' μ₁ μ₂ : Sto} {e f t : Expr} {a b c : AV} {as : List AV}
theorem Hp.rebase (X : Addr → Prop) (H : Hp T B s Z μ) : Hp T ⟨s.heap, Z, fun a => X a ∨ ∃ p ∈ μ, p.1 = a⟩ s Z μ where
  top := H.top
  tab := H.tab
  os := H.os
  gens := H.gens
  tk := H.tk
  keep a o e _ _ := ⟨o, e, .refl o⟩
  z0 a z := z
  zn a z := .inl z
  zok := H.zok
  own p hp := let ⟨h1, h2, h3, r⟩ := H.own p hp; ⟨h1, h2, .inl (.inr ⟨p, hp, rfl⟩), r⟩
  nd := H.nd
structure OffF (C : Cx T S) (B : Base) (Z : Addr → Prop) (a : Addr) : Prop where
  own : Own1 T B Z [] a
  nl : C.env.locals ≠ a
  nc : ∀ x c, C.env.cells.lookup x = some c → c ≠ a
theorem Rp.own_off (R : Rp C B s Z σ μ) {p} (hp : p ∈ μ) : OffF C B Z p.1 :=
  let ⟨h1, h2, h3, _⟩ := R.own p hp
  ⟨⟨h2, h1, fun _ h => (nomatch h), h3⟩, fun e => R.loc.nm p hp e.symm, fun x c e q => (R.cel x c e).1.nm p hp q.symm⟩
theorem Alone.off {I : Addr} (X : Alone C B s Z μ I) : OffF C B Z I := ⟨⟨X.own.big, X.own.nz, fun _ h => (nomatch h), X.own.new⟩, X.nl, X.nc⟩
theorem Rp.frs0 (R : Rp C B s Z σ μ) {D : Addr → Prop} (hD : ∀ a, D a → OffF C B Z a) : FrB0 T C.A ⟨s.heap, Z, D⟩ := by
  obtain ⟨l, hl, k⟩ := R.frs
  refine ⟨l, hl, fun env he => ?_⟩
  obtain ⟨h1, L, h2, h3, h4⟩ := k env he
  refine ⟨h1, L, h2, h3, ?_⟩
  by_cases hL : L = C.env.locals
  · obtain ⟨m, ⟨o, es, ep, ho, hd, _⟩, _⟩ := R.ns
    exact hL ▸ ⟨fun d => (hD _ d).nl rfl, R.loc.big.2, o, es, ep, ho, hd⟩
  · obtain ⟨nD, ht, o, es, ep, ho, hd⟩ := h4.resolve_left hL
    obtain ⟨o', ho', q⟩ := R.keep L o ho nD ht
    exact ⟨fun d => (hD L d).own.new.elim nD fun n => (by rw [n] at ho; cases ho), ht, o', es, ep, ho', q.data.trans hd⟩
theorem Rp.resume_le (R : Rp C B s Z σ μ) {D : Addr → Prop} (hD : ∀ a, D a → OffF C B Z a) (H : Hp T ⟨s.heap, Z, D⟩ s' Z' μ') : Le s.heap Z s'.heap Z' :=
  fun a z => ⟨H.z0 a z, fun o e => by
    obtain ⟨⟨o₁, e₁, n⟩, ht⟩ := R.zok a z
    obtain ⟨o', e', k⟩ := H.keep a o e (fun d => (hD a d).own.nz z) ht
    have : o₁ = o := Option.some.inj (e₁.symm.trans e)
    rw [k.eq (this ▸ n)] at e'; exact e'⟩
theorem Rp.resume (R : Rp C B s Z σ μ) {D : Addr → Prop} (hD : ∀ a, D a → OffF C B Z a) (H : Hp T ⟨s.heap, Z, D⟩ s' Z' μ') : Rp C B s' Z' σ μ' := by
  have L := R.resume_le hD H
  have kl : ∀ o, s.heap.get? C.env.locals = some o → ∃ o', s'.heap.get? C.env.locals = some o' ∧ KeepO o o' := fun o e => H.keep _ o e (fun d => (hD _ d).nl rfl) R.loc.big.2
  have kc : ∀ x c, C.env.cells.lookup x = some c → ∀ o, s.heap.get? c = some o → ∃ o', s'.heap.get? c = some o' ∧ KeepO o o' := fun x c hc o e => H.keep _ o e (fun d => (hD _ d).nc x c hc rfl) (R.cel x c hc).1.big.2
  have nz : ∀ a o, s.heap.get? a = some o → ¬ Z a → ¬ D a → ¬ Z' a := fun a o e h1 h2 z => by
    rcases H.zn a z with z | d | n
    · exact h1 z
    · exact h2 d
    · rw [show s.heap.get? a = none from n] at e; cases e
  have nm : ∀ a o, s.heap.get? a = some o → ¬ D a → ∀ p ∈ μ', p.1 ≠ a := fun a o e h2 p hp q => by
    obtain ⟨_, _, h3, _⟩ := H.own p hp
    rw [q] at h3
    rcases h3 with d | n
    · exact h2 d
    · rw [show s.heap.get? a = none from n] at e; cases e
  obtain ⟨m, hn, hr⟩ := R.ns
  obtain ⟨oL, esL, epL, hoL, _⟩ := id hn
  exact {
    top := H.top
    tab := H.tab
    os := H.os
    gens := H.gens
    tk := H.tk
    keep := fun a o e h1 h2 => by
      obtain ⟨o', e', q⟩ := R.keep a o e h1 h2
      obtain ⟨o'', e'', q'⟩ := H.keep a o' e' (fun d => (hD a d).own.new.elim h1 fun n => by rw [n] at e; cases e) h2
      exact ⟨o'', e'', q.trans q'⟩
    z0 := fun a z => H.z0 a (R.z0 a z)
    zn := fun a z => (H.zn a z).elim (fun z => R.zn a z) fun h => .inr (h.elim (fun d => (hD a d).own.new) fun n => R.toHp.old_new n)
    zok := H.zok
    own := fun p hp => let ⟨h1, h2, h3, r⟩ := H.own p hp; ⟨h1, h2, h3.elim (fun d => (hD _ d).own.new) fun n => R.toHp.old_new n, r⟩
    nd := H.nd
    keys := R.keys
    frs := R.frs
    loc := ⟨R.loc.big, nz _ _ hoL R.loc.nz fun d => (hD _ d).nl rfl, nm _ _ hoL fun d => (hD _ d).nl rfl, R.loc.new⟩
    ns := ⟨m, Ns_keepO hn kl, fun x a h1 h2 => (hr x a h1 h2).imp id fun ⟨v, e, q⟩ => ⟨v, e, q.mono L⟩⟩
    cel := fun x c hc => by
      obtain ⟨h1, h0, h2, v₀, ⟨o, ho, hd⟩, r⟩ := R.cel x c hc
      obtain ⟨o', ho', q⟩ := kc x c hc o ho
      exact ⟨⟨h1.big, nz _ _ ho h1.nz fun d => (hD _ d).nc x c hc rfl, nm _ _ ho fun d => (hD _ d).nc x c hc rfl⟩, h0, h2, v₀, ⟨o', ho', q.data.trans hd⟩, fun a g1 g2 => (r a g1 g2).imp id fun ⟨v, e, q⟩ => ⟨v, e, q.mono L⟩⟩ }
noncomputable def It (T : TopCx) (A : Around) (h : Heap) (Z : Addr → Prop) (I : Addr) (tl : Bool) (as : List AV) : Prop :=
  ∃ fp n P St i, Walks T.prog T.w A I fp [I] n P St ∧ St i h ∧ i + as.length = n ∧ (∀ b ∈ fp, b = I ∨ Z b) ∧ (∀ j v, j < as.length → P (i + j) v → ∃ a, as[j]? = some a ∧ VR h Z v a) ∧
    (tl = true → ∀ i h, St i h → ∃ l k, h.IsListIter I l k) ∧ (∀ i h, St i h → ∃ o, h.get? I = some o ∧ Nd o)
theorem It.mono {A : Around} {h h' : Heap} {I : Addr} {tl : Bool} (X : It T A h Z I tl as) (L : Le h Z h' Z') (k : ∀ o, h.get? I = some o → h'.get? I = some o) : It T A h' Z' I tl as := by
  obtain ⟨fp, n, P, St, i, W, st, hl, hf, hP, ht, hx⟩ := X
  have kk : ∀ b ∈ fp, ∀ o, h.get? b = some o → h'.get? b = some o := fun b hb o e => (hf b hb).elim (fun q => by subst q; exact k o e) fun z => (L b z).2 o e
  refine ⟨fp, n, P, St, i, W, W.frame _ _ _ st kk, hl, fun b hb => (hf b hb).imp id fun z => (L b z).1, fun j v hj p => ?_, ht, hx⟩
  obtain ⟨a, e, V⟩ := hP j v hj p
  exact ⟨a, e, V.mono L⟩
theorem Le.of_but {h h' : Heap} {I : Addr} (nz : ¬ Z I) (k : ∀ b o, b ∉ [I] → h.get? b = some o → h'.get? b = some o) : Le h Z h' Z :=
  fun b z => ⟨z, fun o e => k b o (fun q => nz (List.mem_singleton.mp q ▸ z)) e⟩
theorem It.item {A : Around} {I : Addr} {tl : Bool} (X : It T A s.heap Z I tl (a :: as)) (nz : ¬ Z I) {Q : Option Value → Shared → Prop} {E : Value → Shared → Prop}
    (h : ∀ v h' tk, s.toks ≤ tk → VR s.heap Z v a → It T A h' Z I tl as → (∀ b o, b ∉ [I] → s.heap.get? b = some o → h'.get? b = some o) → (∃ o, h'.get? I = some o ∧ Nd o) → (tl = true → ∃ l k, h'.IsListIter I l k) → Q (some v) { s with heap := h', toks := tk }) :
    wpAny (model T.prog T.w) A (pyNext (.ref I)) Q E s := by
  obtain ⟨fp, n, P, St, i, W, st, hl, hf, hP, ht, hx⟩ := X
  rw [List.length_cons] at hl
  refine wpAny_up (W.item i s _ _ (by lia) st fun v h' tk hv st' hk hle => ?_)
  obtain ⟨a', e, V⟩ := hP 0 v (by simp) (by simpa using hv)
  simp at e; subst e
  have L : Le s.heap Z h' Z := Le.of_but nz hk
  refine h v h' tk hle V ⟨fp, n, P, St, i + 1, W, st', by lia, hf, fun j u hj p => ?_, ht, hx⟩ hk (hx _ _ st') fun q => ht q _ _ st'
  obtain ⟨a', e, V⟩ := hP (j + 1) u (by simp; lia) (by rw [show i + (j + 1) = i + 1 + j by lia]; exact p)
  exact ⟨a', by simpa using e, V.mono L⟩
theorem It.done {A : Around} {I : Addr} {tl : Bool} (X : It T A s.heap Z I tl []) {Q : Option Value → Shared → Prop} {E : Value → Shared → Prop}
    (h : ∀ h' tk, s.toks ≤ tk → (∀ b o, b ∉ [I] → s.heap.get? b = some o → h'.get? b = some o) → Q none { s with heap := h', toks := tk }) :
    wpAny (model T.prog T.w) A (pyNext (.ref I)) Q E s := by
  obtain ⟨fp, n, P, St, i, W, st, hl, hf, hP, ht, hx⟩ := X
  have : i = n := by simpa using hl
  exact wpAny_up (W.done s _ _ (this ▸ st) fun h' tk hk hle => h h' tk hle hk)
theorem It.self {A : Around} {I : Addr} {tl : Bool} (X : It T A s.heap Z I tl as) {Q : Value → Shared → Prop} {E : Value → Shared → Prop} (h : Q (.ref I) s) :
    wpAny (model T.prog T.w) A (pyIter (.ref I)) Q E s := by
  obtain ⟨fp, n, P, St, i, W, st, _⟩ := X
  exact W.self i s _ _ st h
inductive PostI (C : Cx T S) (B : Base) (σ : Sig) (μ' : Sto) (h : Heap) (Z : Addr → Prop) (tl : Bool) (as : List AV) (it : Value) (s' : Shared) : Prop
  | mk (I : Addr) (Z' : Addr → Prop) (e : it = .ref I) (R : Rp C B s' Z' σ μ') (L : Le h Z s'.heap Z') (X : Alone C B s' Z' μ' I) (i : It T C.A s'.heap Z' I tl as)
structure EvI (C : Cx T S) (e : Expr) (σ : Sig) (μ : Sto) (tl : Bool) (as : List AV) (μ' : Sto) : Prop where
  run : C.Ok → ∀ B s Z, Rp C B s Z σ μ → wpAny (Md T) C.A (eval e C.env) (fun v s₁ => wpAny (Md T) C.A (pyIter v) (PostI C B σ μ' s.heap Z tl as) NoE s₁) NoE s
theorem evi_list (h : EvS C e σ μ (.lst as) μ') : EvI C e σ μ true as μ' := by
  refine ⟨fun ok B s Z R => ?_⟩
  refine wpAny_mono (h.run ok B s Z R) ?_ fun _ _ x => x
  rintro v s₁ ⟨Z₁, R₁, L₁, V₁⟩
  obtain ⟨ax, vs, n, rfl, z, e, r⟩ := V₁.ilst
  ·
    have hlt := Heap.lt_size e
    refine wpAny_pyIter_list (isList_of e) ?_
    refine ⟨_, Z₁, rfl, R₁.push _, L₁.trans (le_push _ _ _), R₁.alone _, ?_⟩
    have hlen := r.length
    refine ⟨_, _, _, _, 0, Walks.list (show C.A.handled = none from ok.hh) s₁.heap.objs.size ax (Nat.ne_of_lt hlt) vs.toArray, ⟨⟨_, Heap.get?_push_size _ rfl, rfl, rfl⟩, (isList_of e).push _⟩, by simpa using hlen.symm, fun b hb => ?_, fun j v hj p => ?_, fun _ i h st => ⟨_, _, st.1⟩, fun i h st => let ⟨o, ho, _, hd⟩ := st.1; ⟨o, ho, fun _ _ q => by rw [hd] at q; cases q⟩⟩
    · rcases List.mem_cons.mp hb with q | hb
      · exact .inl q
      · exact .inr (List.mem_singleton.mp hb ▸ z)
    · obtain ⟨v', hv, V⟩ := r.get (k := j) (a := as[j]) (by simp [hj])
      have : v' = v := by simpa [hv] using p
      exact ⟨_, by simp [hj], this ▸ V.mono (le_push _ _ _)⟩
theorem evi_tup (h : EvS C e σ μ (.tup as) μ') : EvI C e σ μ false as μ' := by
  refine ⟨fun ok B s Z R => ?_⟩
  refine wpAny_mono (h.run ok B s Z R) ?_ fun _ _ x => x
  rintro v s₁ ⟨Z₁, R₁, L₁, V₁⟩
  obtain ⟨ax, vs, n, rfl, z, e, r⟩ := V₁.itup
  ·
    have hlt := Heap.lt_size e
    refine wpAny_pyIter_tuple ⟨_, e, rfl, n, rfl⟩ ?_
    refine ⟨_, Z₁, rfl, R₁.push _, L₁.trans (le_push _ _ _), R₁.alone _, ?_⟩
    have hlen := r.length
    refine ⟨_, _, _, _, 0, Walks.tuple (show C.A.handled = none from ok.hh) s₁.heap.objs.size ax (Nat.ne_of_lt hlt) vs.toArray, ⟨⟨_, Heap.get?_push_size _ rfl, rfl, rfl⟩, ⟨_, Heap.get?_push_of_some _ e, rfl, n, rfl⟩⟩, by simpa using hlen.symm, fun b hb => ?_, fun j v hj p => ?_, fun q => (nomatch q), fun i h st => let ⟨o, ho, _, hd⟩ := st.1; ⟨o, ho, fun _ _ q => by rw [hd] at q; cases q⟩⟩
    · rcases List.mem_cons.mp hb with q | hb
      · exact .inl q
      · exact .inr (List.mem_singleton.mp hb ▸ z)
    · obtain ⟨v', hv, V⟩ := r.get (k := j) (a := as[j]) (by simp [hj])
      have : v' = v := by simpa [hv] using p
      exact ⟨_, by simp [hj], this ▸ V.mono (le_push _ _ _)⟩
noncomputable def rngs (a c : Int) (n : Nat) : List AV := (List.range n).map fun (i : Nat) => .int (a + (i : Int) * c)
theorem evi_rng {a b c : Int} {n : Nat} (h : EvS C e σ μ (.rng a b c) μ') (hs : Builtin.Range.small a b c = true) (hn : Builtin.Range.rangeSize a b c = n) : EvI C e σ μ false (rngs a c n) μ' := by
  refine ⟨fun ok B s Z R => ?_⟩
  refine wpAny_mono (h.run ok B s Z R) ?_ fun _ _ x => x
  rintro v s₁ ⟨Z₁, R₁, L₁, V₁⟩
  obtain ⟨_, _, _, _, rfl, z, e⟩ := V₁.irng
  ·
    refine wpAny_pyIter_range e hs ?_
    refine ⟨_, Z₁, rfl, R₁.push _, L₁.trans (le_push _ _ _), R₁.alone _, ?_⟩
    refine ⟨_, _, _, _, 0, Walks.range (show C.A.handled = none from ok.hh) s₁.heap.objs.size a c n, ?_, by simp [rngs], fun b hb => .inl (List.mem_singleton.mp hb), fun j v hj p => ?_, fun q => (nomatch q), fun i h st => ⟨_, st, fun _ _ q => nomatch q⟩⟩
    · show IsRangeIter _ _ _ _ _
      rw [hn]; simpa using Heap.get?_push_size _ rfl
    · obtain ⟨t, rfl⟩ := p
      simp [rngs] at hj
      refine ⟨.int (a + (j : Int) * c), by simp [rngs, hj], ?_⟩
      rw [Nat.zero_add]
      exact .int _ _
theorem ca_range1 {n : Int} : CallA C (.type "range") [.int n] σ μ (.rng 0 n 1) μ := ⟨fun ok B s Z vs R V => by
  obtain ⟨_, rfl, V1⟩ := V.i1
  obtain ⟨_, rfl⟩ := V1.iint
  exact call_range_1 ⟨_, (R.pushZ ok.top _ rfl).toks _, le_pushZ _ _ _ _, .rng (.inr rfl) (Heap.get?_push_size _ rfl)⟩⟩
theorem ca_range2 {m n : Int} : CallA C (.type "range") [.int m, .int n] σ μ (.rng m n 1) μ := ⟨fun ok B s Z vs R V => by
  obtain ⟨_, _, rfl, V1, W⟩ := V.i2
  obtain ⟨_, rfl⟩ := V1.iint
  obtain ⟨_, rfl⟩ := W.iint
  exact call_range_2 ⟨_, (R.pushZ ok.top _ rfl).toks _, le_pushZ _ _ _ _, .rng (.inr rfl) (Heap.get?_push_size _ rfl)⟩⟩
theorem ca_range3 {m n c : Int} (hc : c ≠ 0) (hd : (n - m).natAbs < 2 ^ 63) (hc' : c.natAbs < 2 ^ 30) : CallA C (.type "range") [.int m, .int n, .int c] σ μ (.rng m n c) μ := ⟨fun ok B s Z vs R V => by
  obtain ⟨_, _, _, rfl, V1, W, X⟩ := V.i3
  obtain ⟨_, rfl⟩ := V1.iint
  obtain ⟨_, rfl⟩ := W.iint
  obtain ⟨_, rfl⟩ := X.iint
  exact call_range_3 hc ⟨_, (R.pushZ ok.top _ rfl).toks _ R.tk, le_pushZ _ _ _ _, .rng (.inr rfl) (Heap.get?_push_size _ rfl)⟩ (.inl (PyProof.noPylong_small (by lia)))⟩
noncomputable def KFor (W : List AV → Sig → Sto → Prop) (as : List AV) (K : AF → Sig → Sto → Prop) : AF → Sig → Sto → Prop := fun f σ μ => match f with
  | .next | .cont => W as σ μ
  | .brk => K .next σ μ
  | .ret a => K (.ret a) σ μ
variable {x : Str} {px pos : Pos} {iter : Expr} {body orelse rest : List Stmt} {K : AF → Sig → Sto → Prop} {tl : Bool}
inductive ForI (C : Cx T S) (B : Base) (h : Heap) (Z : Addr → Prop) (I : Addr) (tl : Bool) (W : List AV → Sig → Sto → Prop) (n : Nat) (s : Shared) : Prop
  | mk (Z' : Addr → Prop) (σ' : Sig) (μ' : Sto) (as : List AV) (e : n = as.length + 1) (R : Rp C B s Z' σ' μ') (L : Le h Z s.heap Z') (X : Alone C B s Z' μ' I) (i : It T C.A s.heap Z' I tl as) (w : W as σ' μ')
theorem ex1_for (W : List AV → Sig → Sto → Prop) (hi : EvI C iter σ μ tl as μ₁) (h : W as σ μ₁)
    (turn : ∀ a as σ μ, W (a :: as) σ μ → Asg C (.Name x px) a σ μ fun σ μ => Ex C body σ μ (KFor W as K)) (done : ∀ σ μ, W [] σ μ → Ex C orelse σ μ K)
    (hs : ∀ env v, foldedSetIterable iter env v = pure v := by intro _ _; rfl) : Ex1 C (.For (.Name x px) iter body orelse pos) σ μ K := by
  refine ⟨fun ok B s Z R => ?_⟩
  refine wpAny_For (wpAny_mono (hi.run ok B s Z R) ?_ fun _ _ x => x) (hs _)
  intro v s₁ h₁
  refine wpAny_mono h₁ ?_ fun _ _ x => x
  rintro it s₂ ⟨I, Z₂, rfl, R₂, L₂, X₂, I₂⟩
  refine codeAny_forLoop (ForI C B s.heap Z I tl W) ?_ _ ⟨Z₂, σ, μ₁, as, rfl, R₂, L₂, X₂, I₂, h⟩
  rintro n s₃ ⟨Z₃, σ₃, μ₃, as₃, rfl, R₃, L₃, X₃, I₃, w⟩
  cases as₃ with
  | nil =>
    refine I₃.done fun h' tk hle hk => ?_
    obtain ⟨R₄, L₄⟩ := R₃.stepI ok X₃ (tk := tk) hle hk
    exact wpAny_mono ((done _ _ w).run ok B _ Z₃ R₄) (fun _ _ p => p.le (L₃.trans L₄)) fun _ _ x => x.elim
  | cons a as₃ =>
    refine I₃.item X₃.own.nz fun v h' tk hle V I₄ hk hI _ => ?_
    obtain ⟨R₄, L₄⟩ := R₃.stepI ok X₃ (tk := tk) hle hk
    have X₄ : Alone C B { s₃ with heap := h', toks := tk } Z₃ μ₃ I := ⟨X₃.own, X₃.nl, X₃.nc, let ⟨o, ho, _⟩ := hI; ⟨o, ho⟩⟩
    obtain ⟨oI, hoI, ndI⟩ := hI
    refine wpAny_mono ((turn a as₃ _ _ w).run ok _ _ Z₃ v R₄.rebase (V.mono L₄)) ?_ fun _ _ x => x.elim
    rintro _ s₅ ⟨Z₅, σ₅, μ₅, R₅, L₅, k⟩
    have X₅ := X₄.through R₄ R₅
    have hI₅ := X₄.kept R₅ hoI ndI
    have I₅ := I₄.mono L₅ fun o e => (show oI = o from Option.some.inj (hoI.symm.trans e)) ▸ hI₅
    have R₅' := R₄.debase R₅
    refine wpAny_mono (k.run ok _ _ Z₅ R₅'.rebase) ?_ fun _ _ x => x.elim
    rintro fl s₆ ⟨Z₆, σ₆, μ₆, f, R₆, L₆, F₆, k⟩
    have L := L₃.trans (L₄.trans (L₅.trans L₆))
    have R₆' := R₅'.debase R₆
    have X₆ := X₅.through R₅' R₆
    have I₆ := I₅.mono L₆ fun o e => (show oI = o from Option.some.inj (hI₅.symm.trans e)) ▸ X₅.kept R₆ hI₅ ndI
    cases F₆ with
    | next => exact ⟨as₃.length + 1, by simp, Z₆, σ₆, μ₆, as₃, rfl, R₆', L, X₆, I₆, k⟩
    | cont => exact ⟨as₃.length + 1, by simp, Z₆, σ₆, μ₆, as₃, rfl, R₆', L, X₆, I₆, k⟩
    | brk => exact ⟨Z₆, σ₆, μ₆, .next, R₆', L, .next, k⟩
    | ret V => exact ⟨Z₆, σ₆, μ₆, .ret _, R₆', L, .ret V, k⟩
theorem ex_for (W : List AV → Sig → Sto → Prop) (hi : EvI C iter σ μ tl as μ₁) (h : W as σ μ₁)
    (turn : ∀ a as σ μ, W (a :: as) σ μ → Asg C (.Name x px) a σ μ fun σ μ => Ex C body σ μ (KFor W as (Then C rest K))) (done : ∀ σ μ, W [] σ μ → Ex C orelse σ μ (Then C rest K))
    (hs : ∀ env v, foldedSetIterable iter env v = pure v := by intro _ _; rfl) : Ex C (.For (.Name x px) iter body orelse pos :: rest) σ μ K := ex_cons (ex1_for W hi h turn done hs)
theorem asg_pair {x y : Str} {p1 p2 tp : Pos} {k : Nat} {K : Sig → Sto → Prop} (h : Asg C (.Name x p1) a σ μ fun σ₁ μ₁ => Asg C (.Name y p2) b σ₁ μ₁ K) : Asg C (.Tuple [.Name x p1, .Name y p2] k tp) (.tup [a, b]) σ μ K := by
  refine ⟨fun ok B s Z v R V => ?_⟩
  obtain ⟨_, _, _, rfl, z, e, r⟩ := V.itup
  obtain ⟨_, _, rfl, V₁, V₂⟩ := r.i2
  ·     refine assign_Tuple_tuple (show C.A.handled = none from ok.hh) ⟨_, e, rfl, _, rfl⟩ rfl rfl fun h' he => ?_
        have gr : ∀ a o, s.heap.get? a = some o → h'.get? a = some o := fun a o e => he a o (Nat.ne_of_lt (Heap.lt_size e)) e
        have R₁ : Rp C B { s with heap := h' } Z σ μ := R.grow (s' := { s with heap := h' }) gr rfl R.gens R.tk
        have L₁ : Le s.heap Z h' Z := Le.of_keep gr
        refine assignInOrder_cons (wpAny_mono (h.run ok B _ Z _ R₁ (V₁.mono L₁)) ?_ fun _ _ x => x)
        rintro _ s₂ ⟨Z₂, σ₂, μ₂, R₂, L₂, h₂⟩
        refine assignInOrder_cons (wpAny_mono (h₂.run ok B _ Z₂ _ R₂ (V₂.mono (L₁.trans L₂))) ?_ fun _ _ x => x)
        rintro _ s₃ ⟨Z₃, σ₃, μ₃, R₃, L₃, h₃⟩
        exact assignInOrder_nil ⟨Z₃, σ₃, μ₃, R₃, L₁.trans (L₂.trans L₃), h₃⟩
end
end Mine
namespace Mine
open PySem PySem.W PySem.Calls PyProof.Rows PySem.Spec
section
variable {T : TopCx} {S : FnS}
structure EvTests (C : Cx T S) (ifs : List Expr) (σ : Sig) (μ : Sto) (b : Bool) : Prop where
  run : C.Ok → ∀ B s Z, Rp C B s Z σ μ → wpAny (Md T) C.A (forIn ifs true fun c r => if r = true then do let ok ← isTrue c C.env (eval c C.env); pure (ForInStep.yield ok) else pure (ForInStep.yield r))
    (PostT C B σ μ s.heap Z b) NoE s
variable {C : Cx T S} {B : Base} {s s' : Shared} {Z Z' : Addr → Prop} {σ σ' σ₀ : Sig} {μ μ' μ₁ μ₂ : Sto} {e f t : Expr} {a b c : AV} {as out : List AV} {ifs : List Expr}
theorem evts_nil : EvTests C [] σ μ true := ⟨fun ok B s Z R => wpAny_tests_nil ⟨rfl, Z, R, Le.refl _ _⟩⟩
theorem evts_one {b : Bool} (h : EvB C e σ μ b) : EvTests C [e] σ μ b := ⟨fun ok B s Z R => wpAny_tests_one (h.run ok B s Z R)⟩
inductive Wk : Sig → Sig → Prop
  | nil : Wk [] []
  | same {p σ σ'} : Wk σ σ' → Wk (p :: σ) (p :: σ')
  | un {x a σ σ'} : Wk σ σ' → Wk ((x, a) :: σ) ((x, .un) :: σ')
theorem Wk.refl : ∀ (σ : Sig), Wk σ σ
  | [] => .nil
  | _ :: r => .same (Wk.refl r)
theorem Wk.keys {σ σ' : Sig} (w : Wk σ σ') : σ'.map (·.1) = σ.map (·.1) := by
  induction w with
  | nil => rfl
  | same w ih => rw [List.map_cons, List.map_cons, ih]
  | un w ih => rw [List.map_cons, List.map_cons, ih]
theorem Wk.mem {σ σ' : Sig} (w : Wk σ σ') {x a} (h : (x, a) ∈ σ') : a = .un ∨ (x, a) ∈ σ := by
  induction w with
  | nil => cases h
  | same w ih =>
    rcases List.mem_cons.mp h with e | h
    · exact .inr (e ▸ .head _)
    · exact (ih h).imp id fun h => .tail _ h
  | un w ih =>
    rcases List.mem_cons.mp h with e | h
    · obtain ⟨rfl, rfl⟩ := Prod.mk.inj e; exact .inl rfl
    · exact (ih h).imp id fun h => .tail _ h
theorem Rp.weak (R : Rp C B s Z σ μ) (w : Wk σ σ') : Rp C B s Z σ' μ where
  toHp := R.toHp
  keys := w.keys.trans R.keys
  frs := R.frs
  loc := R.loc
  ns := by
    obtain ⟨m, hn, r⟩ := R.ns
    exact ⟨m, hn, fun x a h1 h2 => (w.mem h1).elim .inl fun h1 => r x a h1 h2⟩
  cel := fun x c e => by
    obtain ⟨h1, h0, h2, v₀, hc, r⟩ := R.cel x c e
    exact ⟨h1, h0, h2, v₀, hc, fun a h1 h2 => (w.mem h1).elim .inl fun h1 => r a h1 h2⟩
noncomputable def CRun (C : Cx T S) (tgt : Expr) (ifs : List Expr) (elt : Expr) (σ₀ : Sig) : List AV → Sto → List AV → Sto → Prop
  | [], μ, out, μ' => out = [] ∧ μ' = μ
  | a :: as, μ, out, μ' => Asg C tgt a σ₀ μ fun σ₁ μ₁ => Wk σ₁ σ₀ ∧ ∃ b, EvTests C ifs σ₁ μ₁ b ∧ (b = false → CRun C tgt ifs elt σ₀ as μ₁ out μ') ∧
      (b = true → ∃ c μ₂ out', EvS C elt σ₁ μ₁ c μ₂ ∧ out = c :: out' ∧ CRun C tgt ifs elt σ₀ as μ₂ out' μ')
section
variable {prog : Program} {w : World} {A : Around} {R : Result → Shared → Prop}
theorem codeAny_compLoop_any {elt target iter : Expr} {ifs : List Expr} {scope : Scope} {pos : Pos} {it acc : Value} {env : Env} (I : Nat → Shared → Prop)
    (turn : ∀ n s, I n s → wpAny (model prog w) A (pyNext it) (fun r s₁ => match r with
      | none => R (.ok .next) s₁
      | some v => wpAny (model prog w) A (letOwnedTupleGo target it v) (fun _ s₁' => wpAny (model prog w) A (assign target env v) (fun _ s₂ =>
          wpAny (model prog w) A (forIn ifs true fun c r => if r = true then do let ok ← isTrue c env (eval c env); pure (ForInStep.yield ok) else pure (ForInStep.yield r)) (fun ok s₃ =>
            if ok = true then wpAny (model prog w) A (eval elt env) (fun x s₄ =>
              wpAny (model prog w) A (call (.builtin "list.append") [acc, x]) (fun _ s₅ => ∃ m, m < n ∧ I m s₅) (notedBy (model prog w) A env fun e s' => R (.error e) s') s₄) (notedBy (model prog w) A env fun e s' => R (.error e) s') s₃
            else ∃ m, m < n ∧ I m s₃) (notedBy (model prog w) A env fun e s' => R (.error e) s') s₂) (notedBy (model prog w) A env fun e s' => R (.error e) s') s₁') (notedBy (model prog w) A env fun e s' => R (.error e) s') s₁) (notedBy (model prog w) A env fun e s' => R (.error e) s') s)
    (n : Nat) (h : I n s) :
    codeAny (model prog w) A (.compLoop (.ListComp elt [⟨target, iter, ifs, 0⟩] scope pos) 0 it acc env) R s := by
  refine codeAny_loop rfl I (fun n s hI => ?_) n h
  show wpAny _ A ((compTurn (.ListComp elt [⟨target, iter, ifs, 0⟩] scope pos) 0 it acc env).onRaise (fun x => do noteFrame x env; theTreesLotGoes x)) _ _ s
  refine wpAny_noted ?_
  rw [compTurn_list]
  refine wpAny_bind (wpAny_standAt (wpAny_bind (wpAny_mono (turn n s hI) (fun r s₁ h₁ => ?_) fun _ _ h' => h')))
  cases r with
  | none => exact wpAny_pure h₁
  | some v =>
    refine wpAny_bind (wpAny_mono h₁ (fun _ s₁' h₁' => ?_) fun _ _ h' => h')
    refine wpAny_bind (wpAny_mono h₁' (fun _ s₂ h₂ => wpAny_bind (wpAny_mono h₂ (fun ok s₃ h₃ => ?_) fun _ _ h' => h')) fun _ _ h' => h')
    cases ok with
    | false => exact wpAny_pure ⟨rfl, h₃⟩
    | true =>
      exact wpAny_bind (wpAny_bind (wpAny_mono h₃ (fun x s₄ h₄ => wpAny_bind (wpAny_mono h₄ (fun _ s₅ h₅ => wpAny_pure (wpAny_pure ⟨rfl, h₅⟩)) fun _ _ h' => h')) fun _ _ h' => h'))
end
theorem lgN {x : Str} {p : Pos} {tl : Bool} : (∀ it v, letOwnedTupleGo (.Name x p) it v = pure ()) ∨ (tl = true ∧ ∃ es k q, Expr.Name x p = .Tuple es k q) := .inl fun _ _ => rfl
theorem lgT {es : List Expr} {k : Nat} {p : Pos} : (∀ it v, letOwnedTupleGo (.Tuple es k p) it v = pure ()) ∨ (true = true ∧ ∃ fs j q, Expr.Tuple es k p = .Tuple fs j q) := .inr ⟨rfl, _, _, _, rfl⟩
theorem lg_any {tgt : Expr} {I : Addr} {v : Value} {tl : Bool} {A : Around} {Q : Unit → Shared → Prop} {E : Value → Shared → Prop} (h : (∀ it v, letOwnedTupleGo tgt it v = pure ()) ∨ (tl = true ∧ ∃ es k p, tgt = .Tuple es k p))
    (hl : tl = true → ∃ l k, s.heap.IsListIter I l k) (hQ : Q () s) : wpAny (Md T) A (letOwnedTupleGo tgt (.ref I) v) Q E s := by
  rcases h with h | ⟨h1, es, k, p, rfl⟩
  · exact wpAny_of_eq (h _ _) hQ
  · obtain ⟨l, k, hk⟩ := hl h1
    cases v with
    | ref a => exact wpAny_letOwnedTupleGo_listiter hk hQ
    | _ => exact wpAny_pure hQ
inductive CIs (C : Cx T S) (B : Base) (h₀ : Heap) (Z : Addr → Prop) (I D : Addr) (tl : Bool) (tgt : Expr) (ifs : List Expr) (e : Expr) (σ₀ : Sig) (out : List AV) (μ₂ : Sto) (k : Nat) (s : Shared) : Prop
  | mk (as ys todo : List AV) (μ : Sto) (Z₁ : Addr → Prop) (vs : List Value) (n : Nat) (ek : k = as.length + 1) (R : Rp C B s Z₁ σ₀ μ) (L : Le h₀ Z s.heap Z₁) (XI : Alone C B s Z₁ μ I) (XD : Alone C B s Z₁ μ D) (i : It T C.A s.heap Z₁ I tl as)
    (hD : s.heap.get? D = some (listOf vs.toArray n)) (V : VRs s.heap Z₁ vs ys) (he : out = ys ++ todo) (r : CRun C tgt ifs e σ₀ as μ todo μ₂)
theorem comp_loop {tgt iter : Expr} {scope : Scope} {pos : Pos} {I D : Addr} {tl : Bool} {RR : Result → Shared → Prop} {h₀ : Heap} (ok : C.Ok) (hlg : (∀ it v, letOwnedTupleGo tgt it v = pure ()) ∨ (tl = true ∧ ∃ es k p, tgt = .Tuple es k p))
    (hDI : D ≠ I) (hsz : out.length ≤ sizeLine)
    (hR : ∀ s' Z' n vs, Rp C B s' Z' σ₀ μ₂ → Le h₀ Z s'.heap Z' → Alone C B s' Z' μ₂ D → s'.heap.get? D = some (listOf vs.toArray n) → VRs s'.heap Z' vs out → RR (.ok .next) s')
    {ys todo : List AV} {s₁ : Shared} {Z₁ : Addr → Prop} {vs : List Value} {n : Nat} (R : Rp C B s₁ Z₁ σ₀ μ) (L : Le h₀ Z s₁.heap Z₁) (XI : Alone C B s₁ Z₁ μ I) (XD : Alone C B s₁ Z₁ μ D) (i : It T C.A s₁.heap Z₁ I tl as)
    (hD : s₁.heap.get? D = some (listOf vs.toArray n)) (V : VRs s₁.heap Z₁ vs ys) (he : out = ys ++ todo) (r : CRun C tgt ifs e σ₀ as μ todo μ₂) :
      codeAny (Md T) C.A (.compLoop (.ListComp e [⟨tgt, iter, ifs, 0⟩] scope pos) 0 (.ref I) (.ref D) C.env) RR s₁ := by
  refine codeAny_compLoop_any (CIs C B h₀ Z I D tl tgt ifs e σ₀ out μ₂) ?_ _ ⟨as, ys, todo, μ, Z₁, vs, n, rfl, R, L, XI, XD, i, hD, V, he, r⟩
  clear hD V he r i XI XD L R
  rintro k s₁ ⟨as, ys, todo, μ, Z₁, vs, n, rfl, R, L, XI, XD, i, hD, V, he, r⟩
  cases as with
  | nil =>
    obtain ⟨rfl, rfl⟩ := r
    rw [List.append_nil] at he; subst he
    refine i.done fun h' tk hle hk => ?_
    obtain ⟨R₄, L₄⟩ := R.stepI ok XI (tk := tk) hle hk
    have hD' := hk D _ (fun q => hDI (List.mem_singleton.mp q)) hD
    exact hR _ Z₁ n vs R₄ (L.trans L₄) ⟨XD.own, XD.nl, XD.nc, _, hD'⟩ hD' (V.mono L₄)
  | cons a as =>
    refine i.item XI.own.nz fun v h' tk hle Va i₄ hk hI hli => ?_
    obtain ⟨R₄, L₄⟩ := R.stepI ok XI (tk := tk) hle hk
    have hD' := hk D _ (fun q => hDI (List.mem_singleton.mp q)) hD
    obtain ⟨oI, hoI, ndI⟩ := hI
    have XI₄ : Alone C B { s₁ with heap := h', toks := tk } Z₁ μ I := ⟨XI.own, XI.nl, XI.nc, oI, hoI⟩
    have XD₄ : Alone C B { s₁ with heap := h', toks := tk } Z₁ μ D := ⟨XD.own, XD.nl, XD.nc, _, hD'⟩
    refine lg_any (T := T) hlg hli ?_
    refine wpAny_mono ((show Asg C tgt a σ₀ μ _ from r).run ok _ _ Z₁ v R₄.rebase (Va.mono L₄)) ?_ fun _ _ x => x.elim
    rintro _ s₅ ⟨Z₅, σ₅, μ₅, R₅, L₅, wk, b, ht, hf, htt⟩
    have XI₅ := XI₄.through R₄ R₅
    have XD₅ := XD₄.through R₄ R₅
    have hI₅ := XI₄.kept R₅ hoI ndI
    have i₅ := i₄.mono L₅ fun o e => (show oI = o from Option.some.inj (hoI.symm.trans e)) ▸ hI₅
    have hD₅ := XD₄.kept R₅ hD' Nd.list
    have R₅' := R₄.debase R₅
    refine wpAny_mono (ht.run ok _ _ Z₅ R₅'.rebase) ?_ fun _ _ x => x.elim
    rintro c s₆ ⟨rfl, Z₆, R₆, L₆⟩
    have XI₆ := XI₅.through R₅' R₆
    have XD₆ := XD₅.through R₅' R₆
    have hI₆ := XI₅.kept R₆ hI₅ ndI
    have i₆ := i₅.mono L₆ fun o e => (show oI = o from Option.some.inj (hI₅.symm.trans e)) ▸ hI₆
    have hD₆ := XD₅.kept R₆ hD₅ Nd.list
    have R₆' := R₅'.debase R₆
    have Ls := L₄.trans (L₅.trans L₆)
    cases c with
    | false =>
      exact ⟨as.length + 1, by simp, as, ys, todo, μ₅, Z₆, vs, n, rfl, R₆'.weak wk, L.trans Ls, XI₆, XD₆, i₆, hD₆, V.mono Ls, he, hf rfl⟩
    | true =>
      obtain ⟨c, μ₇, out', hel, rfl, r'⟩ := htt rfl
      show wpAny _ _ _ _ _ _
      refine wpAny_mono (hel.run ok _ _ Z₆ R₆'.rebase) ?_ fun _ _ x => x.elim
      rintro y s₇ ⟨Z₇, R₇, L₇, V₇⟩
      have XI₇ := XI₆.through R₆' R₇
      have XD₇ := XD₆.through R₆' R₇
      have hI₇ := XI₆.kept R₇ hI₆ ndI
      have i₇ := i₆.mono L₇ fun o e => (show oI = o from Option.some.inj (hI₆.symm.trans e)) ▸ hI₇
      have hD₇ := XD₆.kept R₇ hD₆ Nd.list
      have R₇' := R₆'.debase R₇
      have hlen : vs.length = ys.length := V.length
      refine append_at hD₇ (fun h₈ hs ho => ?_) (by rw [List.size_toArray, hlen]; rw [he] at hsz; simp at hsz; lia)
      rw [List.push_toArray] at ho
      obtain ⟨R₈, L₈⟩ := R₇'.off ok.top XD₇.own XD₇.nl XD₇.nc hs.extBut
      have L78 := L₇.trans L₈
      refine ⟨as.length + 1, by simp, as, ys ++ [c], out', μ₇, Z₇, _, _, rfl, R₈.weak wk, L.trans (Ls.trans L78), ⟨XI₇.own, XI₇.nl, XI₇.nc, ?_⟩, ⟨XD₇.own, XD₇.nl, XD₇.nc, _, ho⟩, i₇.mono L₈ fun o e => hs.extBut I o (Ne.symm hDI) e, ho, (V.mono (Ls.trans L78)).append (.one (V₇.mono L₈)), by simp [he], r'⟩
      obtain ⟨o, ho⟩ := XI₇.here
      exact ⟨o, hs.extBut I o (Ne.symm hDI) ho⟩
end
end Mine
namespace Mine
open PySem PySem.W PySem.Calls PyProof.Rows PySem.Spec
noncomputable def closL (cells : List (Str × Addr)) : List (Str × NameKind) → List (Str × Addr) → List (Str × Addr)
  | [], acc => acc
  | (n, k) :: r, acc => closL cells r (if k == .free then (match cells.lookup n with | some c => (n, c) :: acc | none => acc) else acc)
theorem clos_go {env : Env} (f : Str × NameKind → List (Str × Addr) → Sem (ForInStep (List (Str × Addr))))
    (hf : ∀ n k cs, f (n, k) cs = if k == .free then (do let a ← cellOf env n; pure (.yield ((n, a) :: cs))) else pure (.yield cs)) :
    ∀ (names : List (Str × NameKind)) (acc : List (Str × Addr)), (∀ p ∈ names, p.2 = .free → ∃ c, env.cells.lookup p.1 = some c) → forIn names acc f = (pure (closL env.cells names acc) : Sem _)
  | [], acc, _ => by rw [List.forIn_nil]; rfl
  | (n, k) :: r, acc, h => by
    rw [List.forIn_cons, hf]
    unfold closL
    by_cases hk : (k == NameKind.free) = true
    · obtain ⟨c, hc⟩ := h (n, k) (.head _) (by simpa using hk)
      rw [if_pos hk, if_pos hk]
      have hc' : env.cells.lookup n = some c := hc
      simp only [hc', cellOf, pure_bind]
      exact clos_go f hf r _ fun p hp => h p (.tail _ hp)
    · rw [if_neg hk, if_neg hk]
      simp only [pure_bind]
      exact clos_go f hf r _ fun p hp => h p (.tail _ hp)
theorem clos_eq {scope : Scope} {env : Env} (h : ∀ p ∈ scope.names, p.2 = .free → ∃ c, env.cells.lookup p.1 = some c) : closureFor scope env = pure (closL env.cells scope.names []) := by
  unfold closureFor
  refine (congrArg (· >>= fun r => pure r) (clos_go _ (fun n k cs => ?_) scope.names [] h)).trans ?_
  · cases k <;> simp
  · simp
theorem closL_mem {cells : List (Str × Addr)} : ∀ {names : List (Str × NameKind)} {acc : List (Str × Addr)} {x : Str} {c : Addr}, (x, c) ∈ closL cells names acc → (x, c) ∈ acc ∨ (cells.lookup x = some c ∧ (x, .free) ∈ names)
  | [], _, _, _, h => .inl h
  | (n, k) :: r, acc, x, c, h => by
    unfold closL at h
    rcases closL_mem h with h | ⟨h, h'⟩
    · split at h
      · rename_i hk
        have hk' : k = .free := by simpa using hk
        split at h
        · rename_i c' hc'
          rcases List.mem_cons.mp h with e | h
          · cases e; exact .inr ⟨hc', hk' ▸ .head _⟩
          · exact .inl h
        · exact .inl h
      · exact .inl h
    · exact .inr ⟨h, .tail _ h'⟩
theorem closL_keep {cells : List (Str × Addr)} : ∀ {names : List (Str × NameKind)} {acc : List (Str × Addr)} {x : Str} {c : Addr}, (x, c) ∈ acc → (x, c) ∈ closL cells names acc
  | [], _, _, _, h => h
  | (n, k) :: r, acc, x, c, h => by
    unfold closL
    refine closL_keep ?_
    split
    · split
      · exact .tail _ h
      · exact h
    · exact h
theorem closL_get {cells : List (Str × Addr)} : ∀ {names : List (Str × NameKind)} {acc : List (Str × Addr)} {x : Str} {c : Addr}, (x, .free) ∈ names → cells.lookup x = some c → (x, c) ∈ closL cells names acc
  | (n, k) :: r, acc, x, c, h, hc => by
    unfold closL
    rcases List.mem_cons.mp h with e | h
    · cases e
      refine closL_keep ?_
      rw [if_pos (by rfl), hc]; exact .head _
    · exact closL_get h hc
theorem lookup_some_of_mem {α : Type} : ∀ {l : List (Str × α)} {x : Str} {c : α}, (x, c) ∈ l → ∃ c', l.lookup x = some c'
  | (k, v) :: r, x, c, h => by
    rw [List.lookup_cons]
    cases hb : x == k with
    | true => exact ⟨_, rfl⟩
    | false =>
      rcases List.mem_cons.mp h with e | h
      · cases e; simp at hb
      · exact lookup_some_of_mem h
theorem cellsFrom_mem : ∀ (names : List (Str × NameKind)) (h : Heap) (acc : List (Str × Addr)) {x : Str} {c : Addr}, (x, c) ∈ cellsFrom h.objs.size names acc →
    (x, c) ∈ acc ∨ ((pushCells h names).IsCell c none ∧ h.objs.size ≤ c ∧ (x, .cell) ∈ names)
  | [], _, _, _, _, m => .inl m
  | (n, k) :: r, h, acc, x, c, m => by
    unfold cellsFrom at m
    unfold pushCells
    split at m
    · rename_i hk
      rw [if_pos hk]
      have hk' : k = .cell := by simpa using hk
      have hs : (h.push { cls := .type "cell", data := .cell none }).objs.size = h.objs.size + 1 := Heap.size_push ..
      rw [← hs] at m
      rcases cellsFrom_mem r _ _ m with m | ⟨h1, h2, h3⟩
      · rcases List.mem_cons.mp m with e | m
        · cases e
          refine .inr ⟨⟨_, pushCells_keeps _ _ _ _ (Heap.get?_push_size _ rfl), rfl⟩, Nat.le_refl _, hk' ▸ .head _⟩
        · exact .inl m
      · exact .inr ⟨h1, by lia, .tail _ h3⟩
    · rename_i hk
      rw [if_neg hk]
      rcases cellsFrom_mem r _ _ m with m | ⟨h1, h2, h3⟩
      · exact .inl m
      · exact .inr ⟨h1, h2, .tail _ h3⟩
theorem cellsFrom_keep : ∀ (names : List (Str × NameKind)) (n : Nat) (acc : List (Str × Addr)) {x : Str} {c : Addr}, (x, c) ∈ acc → (x, c) ∈ cellsFrom n names acc
  | [], _, _, _, _, m => m
  | (_, k) :: r, n, acc, x, c, m => by
    unfold cellsFrom
    split
    · exact cellsFrom_keep r _ _ (.tail _ m)
    · exact cellsFrom_keep r _ _ m
theorem cellsFrom_get : ∀ (names : List (Str × NameKind)) (n : Nat) (acc : List (Str × Addr)) {x : Str}, (x, .cell) ∈ names → ∃ c, (x, c) ∈ cellsFrom n names acc
  | (y, k) :: r, n, acc, x, h => by
    unfold cellsFrom
    rcases List.mem_cons.mp h with e | h
    · cases e
      rw [if_pos (by rfl)]
      exact ⟨_, cellsFrom_keep r _ _ (.head _)⟩
    · split
      · exact cellsFrom_get r _ _ h
      · exact cellsFrom_get r _ _ h
theorem cellsFrom_inj : ∀ (names : List (Str × NameKind)) (n : Nat) (acc : List (Str × Addr)), (∀ p ∈ acc, p.2 < n) → (∀ x y c, (x, c) ∈ acc → (y, c) ∈ acc → x = y) →
    ∀ x y c, (x, c) ∈ cellsFrom n names acc → (y, c) ∈ cellsFrom n names acc → x = y
  | [], _, _, _, hi => hi
  | (z, k) :: r, n, acc, hl, hi => by
    intro x y c
    unfold cellsFrom
    split
    · refine cellsFrom_inj r _ _ (fun p hp => ?_) (fun x y c h1 h2 => ?_) x y c
      · rcases List.mem_cons.mp hp with e | hp
        · subst e; exact Nat.lt_succ_self _
        · exact Nat.lt_succ_of_lt (hl p hp)
      · rcases List.mem_cons.mp h1 with e1 | h1 <;> rcases List.mem_cons.mp h2 with e2 | h2
        · cases e1; cases e2; rfl
        · cases e1; exact absurd (hl _ h2) (Nat.lt_irrefl _)
        · cases e2; exact absurd (hl _ h1) (Nat.lt_irrefl _)
        · exact hi x y c h1 h2
    · exact cellsFrom_inj r _ _ hl hi x y c
theorem lookup_relabel {env : Env} {x : Str} : ∀ {names : List (Str × NameKind)} {k : NameKind}, names.lookup x = some k →
    (names.map fun (n, k) => if (k == NameKind.free && env.scope.kind == .function && env.kindOf n == some .cell) then (n, NameKind.cell) else (n, k)).lookup x =
      some (if (k == NameKind.free && env.scope.kind == .function && env.kindOf x == some .cell) then .cell else k)
  | (n, k') :: r, k, h => by
    show List.lookup x ((if (k' == NameKind.free && env.scope.kind == .function && env.kindOf n == some .cell) = true then (n, NameKind.cell) else (n, k')) :: _) = _
    cases hx : x == n with
    | true =>
      simp only [List.lookup_cons, hx] at h
      cases h
      have : x = n := by simpa using hx
      subst this
      split <;> simp [List.lookup_cons, *]
    | false =>
      simp only [List.lookup_cons, hx] at h
      have ih := lookup_relabel (env := env) h
      split
      · simp only [List.lookup_cons, hx]; exact ih
      · simp only [List.lookup_cons, hx]; exact ih
theorem wp_newEnv {M : Model} {A : Around} {E : Value → Shared → Prop} {s : Shared} {scope : Scope} {globals : Addr} {cl : List (Str × Addr)} {qual : Str} {env : Env} {Q : Env → Shared → Prop}
    (h : Q (newEnv scope s.heap.objs.size globals (cellsFrom (s.heap.objs.size + 1) scope.names cl) qual none .none (some env) builtinsNs) { s with heap := pushCells (s.heap.push { cls := .type "dict", data := .dict #[] }) scope.names }) :
    wpAny M A (newFunctionEnv scope globals cl [] qual none .none (some env)) Q E s := by
  simp only [newFunctionEnv, Option.isSome_some, if_true]
  refine wpAny_bind (wpAny_alloc ?_)
  refine wpAny_bind (wpAny_layCells _ (fun name kind cells => by cases hkc : kind == NameKind.cell <;> simp [hkc]) _ _ _ _ ?_)
  refine wpAny_bind (wpAny_of_eq (a := ⟨⟩) (by rfl) (wpAny_pure ?_))
  rw [show ({ s with heap := s.heap.push { cls := .type "dict", data := .dict #[] } } : Shared).heap.objs.size = s.heap.objs.size + 1 from Heap.size_push ..]
  exact h
end Mine
namespace Mine
open PySem PySem.W PySem.Calls PyProof.Rows PySem.Spec
noncomputable def scOk (scope : Scope) (S' : FnS) : Bool :=
  scope.kind == .function && scope.names.all (fun p => scope.names.lookup p.1 == some p.2)
    && S'.names.all (fun p => match p.2 with | false => scope.names.lookup p.1 == some .local | true => scope.names.lookup p.1 == some .free || scope.names.lookup p.1 == some .cell)
    && S'.globs.all (fun p => scope.names.lookup p.1 == some .globalImplicit) && decide (S'.names.map (·.1)).Nodup && S'.names.all (fun p => !(p.1 == ("__debug__" : Str))) && S'.globs.all (fun p => !(p.1 == ("__debug__" : Str)))
noncomputable def compOk (scope : Scope) (S S' : FnS) : Bool :=
  scOk scope S' && scope.names.all (fun p => p.2 != .free || S.names.contains (p.1, true)) && S'.globs.all (fun p => Gl.contains p) && (S'.ro && S'.own.all (fun x => scope.names.lookup x == some .cell))
structure ScOk (scope : Scope) (S' : FnS) : Prop where
  kind : scope.kind = .function
  own : ∀ p ∈ scope.names, scope.names.lookup p.1 = some p.2
  names : ∀ p ∈ S'.names, (p.2 = false → scope.names.lookup p.1 = some .local) ∧ (p.2 = true → scope.names.lookup p.1 = some .free ∨ scope.names.lookup p.1 = some .cell)
  globs : ∀ p ∈ S'.globs, scope.names.lookup p.1 = some .globalImplicit
  nd : (S'.names.map (·.1)).Nodup
  dbgN : ∀ p ∈ S'.names, (p.1 == ("__debug__" : Str)) = false
  dbgG : ∀ p ∈ S'.globs, (p.1 == ("__debug__" : Str)) = false
theorem scOk_of {scope : Scope} {S' : FnS} (h : scOk scope S' = true) : ScOk scope S' := by
  unfold scOk at h
  simp only [Bool.and_eq_true, List.all_eq_true, decide_eq_true_eq, beq_iff_eq, Bool.not_eq_true'] at h
  obtain ⟨⟨⟨⟨⟨⟨h1, h2⟩, h3⟩, h4⟩, h5⟩, h6⟩, h7⟩ := h
  refine ⟨h1, h2, fun p hp => ?_, h4, h5, h6, h7⟩
  have := h3 p hp
  obtain ⟨x, b⟩ := p
  cases b with
  | false => exact ⟨fun _ => by simpa using this, fun e => nomatch e⟩
  | true => exact ⟨fun e => (nomatch e), fun _ => by simpa using this⟩
section
variable {T : TopCx} {S S' : FnS} {C : Cx T S} {B : Base} {s s' : Shared} {Z Z' : Addr → Prop} {σ σ' σ₀ : Sig} {μ μ' μ₁ μ₂ : Sto} {e f t : Expr} {a b c : AV} {as out : List AV} {ifs : List Expr}
theorem Hp.none_new (H : Hp T B s Z μ) {a : Addr} (h : s.heap.get? a = none) : Own1 T B Z μ a := by
  refine ⟨⟨?_, fun e => ?_⟩, fun z => ?_, fun p hp e => ?_, H.old_new h⟩
  · cases q : T.hb.get? a with
    | none => rfl
    | some o => rw [H.top _ _ q] at h; cases h
  · obtain ⟨ps, e', _⟩ := H.tab
    rw [e, e'] at h; cases h
  · obtain ⟨⟨o, e, _⟩, _⟩ := H.zok a z
    rw [h] at e; cases e
  · obtain ⟨_, _, _, _, _, e', _⟩ := H.own p hp
    rw [e, h] at e'; cases e'
theorem none_of_le {h : Heap} {a : Addr} (l : h.objs.size ≤ a) : h.get? a = none := by
  cases q : h.get? a with
  | none => rfl
  | some o => exact absurd (Heap.lt_size q) (Nat.not_lt.mpr l)
noncomputable def Cx.comp (C : Cx T S) (S' : FnS) (scope : Scope) (L : Addr) : Cx T S' :=
  ⟨C.A, compEnvC scope (cellsFrom (L + 1) scope.names (closL C.env.cells scope.names [])) L C.env, C.d⟩
theorem comp_core {elt tgt iter : Expr} {scope : Scope} {pos : Pos} {I : Addr} {tl : Bool} {RR : Value → Addr → Result → Shared → Prop} (ok : C.Ok) (hsc : compOk scope S S' = true) (hk : σ₀.map (·.1) = S'.names.map (·.1))
    (hσ : ∀ p ∈ σ₀, p.2 = .un ∨ (p ∈ σ ∧ scope.names.lookup p.1 = some .free))
    (hlg : (∀ it v, letOwnedTupleGo tgt it v = pure ()) ∨ (tl = true ∧ ∃ es k p, tgt = .Tuple es k p)) (hsz : out.length ≤ sizeLine)
    (R : Rp C B s Z σ μ₁) (X : Alone C B s Z μ₁ I) (i : It T C.A s.heap Z I tl as) (run : ∀ C' : Cx T S', C'.d = C.d → CRun C' tgt ifs elt σ₀ as μ₁ out μ₂)
    (hR : ∀ D L s' Z' m, Rp C B s' Z' σ ((D, out) :: μ₂) → Le s.heap Z s'.heap Z' → Alone C B s' Z' ((D, out) :: μ₂) L → s'.heap.Ns L m → RR (.ref D) L (.ok .next) s') :
    wpAny (Md T) C.A (newList []) (fun acc s₃ => wpAny (Md T) C.A (newFunctionEnv scope C.env.globals (closL C.env.cells scope.names []) [] C.env.qual none .none (some C.env)) (fun cenv s₄ =>
      codeAny (Md T) C.A (.compStart (.ListComp elt [⟨tgt, iter, ifs, 0⟩] scope pos) 0 (.ref I) acc { cenv with scope := relabel scope C.env }) (RR acc cenv.locals) s₄) NoE s₃) NoE s := by
  unfold compOk at hsc
  simp only [Bool.and_eq_true, List.all_eq_true] at hsc
  obtain ⟨⟨⟨hs1, hs2⟩, hs3⟩, hs4⟩ := hsc
  obtain ⟨hs4, hs5⟩ := hs4
  have SC := scOk_of hs1
  have hfree : ∀ p ∈ scope.names, p.2 = .free → (p.1, true) ∈ S.names := fun p hp e => by
    have := hs2 p hp
    rw [e] at this
    simpa using this
  refine wpAny_newObj_type (wp_newEnv ?_)
  dsimp only
  generalize hH2 : s.heap.push { cls := .type "list", dict := none, data := .seq ([] : List Value).toArray } = H2
  have hLs : H2.objs.size = s.heap.objs.size + 1 := by rw [← hH2, Heap.size_push]
  generalize hL : H2.objs.size = L at *
  generalize hD : s.heap.objs.size = D at *
  have hDn : s.heap.get? D = none := none_of_le (Nat.le_of_eq hD)
  have hLn : s.heap.get? L = none := none_of_le (by rw [hD, hLs]; exact Nat.le_succ _)
  have hDL : D ≠ L := by rw [hLs]; exact Nat.ne_of_lt (Nat.lt_succ_self _)
  let h₁ := pushCells (H2.push { cls := .type "dict", data := .dict #[] }) scope.names
  have k₁ : ∀ b o, s.heap.get? b = some o → h₁.get? b = some o := fun b o e => pushCells_keeps _ _ _ _ (Heap.get?_push_of_some _ (hH2 ▸ Heap.get?_push_of_some _ e))
  have kD : h₁.get? D = some (listOf ([] : List Value).toArray 0) := pushCells_keeps _ _ _ _ (Heap.get?_push_of_some _ (hH2 ▸ hD ▸ Heap.get?_push_size _ rfl))
  have kL : h₁.Ns L (fun _ => none) := by
    have := (Heap.Ns.new H2 (.type "dict")).keeps (pushCells_keeps scope.names (H2.push { cls := .type "dict", data := .dict #[] }))
    rwa [hL] at this
  let cs := cellsFrom (L + 1) scope.names (closL C.env.cells scope.names [])
  have cs_mem : ∀ x c, (x, c) ∈ cs → (C.env.cells.lookup x = some c ∧ (x, .free) ∈ scope.names) ∨ (h₁.IsCell c none ∧ L < c ∧ (x, .cell) ∈ scope.names) := fun x c m => by
    have hsz : (H2.push { cls := .type "dict", data := .dict #[] }).objs.size = L + 1 := by rw [Heap.size_push, hL]
    rcases cellsFrom_mem scope.names (H2.push { cls := .type "dict", data := .dict #[] }) (closL C.env.cells scope.names []) (by rw [hsz]; exact m) with m | ⟨h1, h2, h3⟩
    · rcases closL_mem m with m | m
      · cases m
      · exact .inl m
    · rw [hsz] at h2
      exact .inr ⟨h1, h2, h3⟩
  have cs_inj : ∀ x y c, (x, c) ∈ cs → (y, c) ∈ cs → x = y := by
    refine cellsFrom_inj _ _ _ (fun p hp => ?_) (fun x y c h1 h2 => ?_)
    · rcases closL_mem (x := p.1) (c := p.2) hp with m | ⟨m, _⟩
      · cases m
      · have := R.cel_lt m
        rw [hD] at this
        rw [hLs]; exact Nat.lt_succ_of_lt (Nat.lt_succ_of_lt this)
    · rcases closL_mem h1 with m1 | ⟨m1, _⟩
      · cases m1
      · rcases closL_mem h2 with m2 | ⟨m2, _⟩
        · cases m2
        · exact ok.inj x y c m1 m2
  let C' : Cx T S' := C.comp S' scope L
  have ok' : C'.Ok := {
    top := ok.top
    hh := ok.hh
    depth := ok.depth
    units := ok.units
    kind := SC.kind
    glob := ok.glob
    blt := ok.blt
    names := fun p hp => by
      obtain ⟨g1, g2⟩ := SC.names p hp
      refine ⟨fun e => lookup_relabel_local (g1 e), fun e => ?_⟩
      rcases g2 e with g | g
      · have hm := mem_of_lookup g
        have hS := hfree _ hm rfl
        obtain ⟨q1, c, q2⟩ := (ok.names _ hS).2 rfl
        refine ⟨?_, ?_⟩
        · refine (lookup_relabel (env := C.env) g).trans ?_
          rw [if_pos (by simp [ok.kind, q1])]
        · exact lookup_some_of_mem (cellsFrom_keep _ _ _ (closL_get hm q2))
      · have hm := mem_of_lookup g
        refine ⟨?_, ?_⟩
        · exact (lookup_relabel (env := C.env) g).trans rfl
        · obtain ⟨c, hc⟩ := cellsFrom_get scope.names (L + 1) (closL C.env.cells scope.names []) hm
          exact lookup_some_of_mem hc
    nd := SC.nd
    globs := fun p hp => by
      refine ⟨?_, ok.top.gl p (by simpa using hs3 p hp)⟩
      exact (lookup_relabel (env := C.env) (SC.globs p hp)).trans rfl
    inj := fun x y c h1 h2 => cs_inj x y c (mem_of_lookup h1) (mem_of_lookup h2)
    dbgN := SC.dbgN
    dbgG := SC.dbgG }
  let B' : Base := ⟨s.heap, Z, fun a => a = I ∨ ∃ p ∈ μ₁, p.1 = a⟩
  let s₄ : Shared := { s with heap := h₁ }
  have H₀ : Hp T B' s Z μ₁ := R.toHp.rebase (· = I)
  have H₄ : Hp T B' s₄ Z μ₁ := H₀.grow (s' := s₄) k₁ rfl R.gens R.tk
  have L₄ : Le s.heap Z h₁ Z := Le.of_keep k₁
  obtain ⟨oI, hoI⟩ := X.here
  have hIlt := Heap.lt_size hoI
  rw [hD] at hIlt
  have fresh_cell : ∀ c, L < c → Own1 T B' Z μ₁ c := fun c hc => H₀.none_new (none_of_le (by rw [hD]; rw [hLs] at hc; exact Nat.le_of_lt (Nat.lt_of_succ_lt hc)))
  have R₄ : Rp C' B' s₄ Z σ₀ μ₁ := {
    toHp := H₄
    keys := hk
    frs := (R.frs0 (D := fun a => a = I ∨ ∃ p ∈ μ₁, p.1 = a) (fun a d => by
      rcases d with d | ⟨p, hp, rfl⟩
      · exact d ▸ X.off
      · exact R.own_off hp)).frB _
    loc := H₀.none_new hLn
    ns := ⟨_, kL, fun x a h1 h2 => by
      rcases hσ _ h1 with e | ⟨_, e⟩
      · exact .inl e
      · have := (SC.names _ h2).1 rfl
        rw [this] at e; cases e⟩
    cel := fun x c hc => by
      rcases cs_mem x c (mem_of_lookup hc) with ⟨m, mf⟩ | ⟨g1, g2, g3⟩
      · obtain ⟨q1, q0, q2, v₀, ⟨o, ho, hd⟩, q⟩ := R.cel x c m
        refine ⟨q1, fun hro => ?_, fun e => ?_, v₀, ⟨o, k₁ _ _ ho, hd⟩, fun a h1 h2 => ?_⟩
        · rcases hro with hro | hro
          · rw [hro] at hs4; cases hs4
          · have h1 := hs5 x hro
            have h2 := SC.own _ mf
            dsimp only at h2
            rw [h2] at h1; cases h1
        · have e' : c = L := e
          rw [e', hLn] at ho; cases ho
        · rcases hσ _ h1 with e | ⟨h1, e⟩
          · exact .inl e
          · exact (q a h1 (hfree _ (mem_of_lookup e) rfl)).imp id fun ⟨v, e, V⟩ => ⟨v, e, V.mono L₄⟩
      · have F := fresh_cell c g2
        refine ⟨⟨F.big, F.nz, F.nm⟩, fun _ => F.new, fun e => ?_, none, g1, fun a h1 h2 => ?_⟩
        · have e' : c = L := e
          rw [e'] at g2; exact absurd g2 (Nat.lt_irrefl _)
        · rcases hσ _ h1 with e | ⟨_, e⟩
          · exact .inl e
          · have := SC.own _ g3
            dsimp only at this e
            rw [this] at e; cases e }
  have XI : Alone C' B' s₄ Z μ₁ I := by
    refine ⟨⟨X.own.big, X.own.nz, X.own.nm, .inl (.inl rfl)⟩, fun e => ?_, fun x c hc e => ?_, oI, k₁ _ _ hoI⟩
    · have e' : L = I := e
      rw [← e', hLn] at hoI; cases hoI
    · rcases cs_mem x c (mem_of_lookup hc) with ⟨m, _⟩ | ⟨g1, g2, g3⟩
      · exact X.nc x c m e
      · rw [e, hLs] at g2; exact lene hIlt (Nat.le_of_lt (Nat.lt_of_succ_lt g2))
  have XD : Alone C' B' s₄ Z μ₁ D := by
    refine ⟨H₀.none_new hDn, fun e => ?_, fun x c hc e => ?_, _, kD⟩
    · exact hDL (show L = D from e).symm
    · rcases cs_mem x c (mem_of_lookup hc) with ⟨m, _⟩ | ⟨g1, g2, g3⟩
      · obtain ⟨_, _, _, _, ⟨o, ho, _⟩, _⟩ := R.cel x c m
        rw [e, hDn] at ho; cases ho
      · rw [e, hLs] at g2; exact absurd (Nat.lt_of_succ_lt g2) (Nat.lt_irrefl _)
  have hDI : D ≠ I := fun e => by rw [← e, hDn] at hoI; cases hoI
  have i₄ : It T C'.A s₄.heap Z I tl as := i.mono L₄ fun o e => k₁ _ _ e
  have loop : codeAny (Md T) C.A (.compLoop (.ListComp elt [⟨tgt, iter, ifs, 0⟩] scope pos) 0 (.ref I) (.ref D) C'.env) (RR (.ref D) L) s₄ := by
    refine comp_loop (C := C') (h₀ := s.heap) (Z := Z) (out := out) (μ₂ := μ₂) (σ₀ := σ₀) (ys := []) ok' hlg hDI hsz ?_ R₄ L₄ XI XD i₄ kD .nil rfl (run C' rfl)
    intro s' Z' n vs R' L' XD' hD' V'
    have hoff : ∀ a, B'.D a → OffF C B Z a := fun a d => by
      rcases d with d | ⟨p, hp, rfl⟩
      · exact d ▸ X.off
      · exact R.own_off hp
    have RC := R.resume hoff R'.toHp
    have dm : ∀ x c, C.env.cells.lookup x = some c → c ≠ D := fun x c hc e => by
      obtain ⟨_, _, _, _, ⟨o, ho, _⟩, _⟩ := R.cel x c hc
      rw [e, hDn] at ho; cases ho
    have lm : ∀ x c, C.env.cells.lookup x = some c → c ≠ L := fun x c hc e => by
      obtain ⟨_, _, _, _, ⟨o, ho, _⟩, _⟩ := R.cel x c hc
      rw [e, hLn] at ho; cases ho
    obtain ⟨_, ⟨oC, _, _, hoC, _⟩, _⟩ := R.ns
    have RD := RC.ownNew hD' XD'.own.big (R.toHp.old_new hDn) XD'.own.nm XD'.own.nz V' (fun e => by rw [e, hDn] at hoC; cases hoC) dm
    obtain ⟨m', hn', _⟩ := R'.ns
    refine hR D L s' Z' m' RD L' ⟨⟨R'.loc.big, R'.loc.nz, fun p hp => ?_, R.toHp.old_new hLn⟩, fun e => ?_, lm, (let ⟨o, _, _, ho, _⟩ := id hn'; ⟨o, ho⟩)⟩ hn'
    · rcases List.mem_cons.mp hp with rfl | hp
      · exact hDL
      · exact R'.loc.nm p hp
    · rw [e, hLn] at hoC; cases hoC
  exact codeAny_compStart_list loop (i₄.self loop)
variable {elt tgt iter : Expr} {scope : Scope} {pos p1 spos : Pos} {tl : Bool}
theorem clos_ok (ok : C.Ok) (hsc : compOk scope S S' = true) : closureFor scope C.env = pure (closL C.env.cells scope.names []) := by
  unfold compOk at hsc
  simp only [Bool.and_eq_true, List.all_eq_true] at hsc
  obtain ⟨⟨⟨hs1, hs2⟩, hs3⟩, hs4⟩ := hsc
  refine clos_eq fun p hp e => ?_
  have := hs2 p hp
  rw [e] at this
  exact ((ok.names _ (show (p.1, true) ∈ S.names by simpa using this)).2 rfl).2
theorem comp_kind (hsc : compOk scope S S' = true) : ScOk scope S' := by
  unfold compOk at hsc
  simp only [Bool.and_eq_true] at hsc
  exact scOk_of hsc.1.1.1
theorem evn_comp (S' : FnS) (σ₀ : Sig) (hi : EvI C iter σ μ tl as μ₁) (hsc : compOk scope S S' = true) (hk : σ₀.map (·.1) = S'.names.map (·.1))
    (hσ : ∀ p ∈ σ₀, p.2 = .un ∨ (p ∈ σ ∧ scope.names.lookup p.1 = some .free)) (hsz : out.length ≤ sizeLine)
    (run : ∀ C' : Cx T S', C'.d = C.d → CRun C' tgt ifs elt σ₀ as μ₁ out μ₂)
    (hlg : (∀ it v, letOwnedTupleGo tgt it v = pure ()) ∨ (tl = true ∧ ∃ es k p, tgt = .Tuple es k p) := by first | exact lgN | exact lgT)
    (hs : ∀ env v, foldedSetIterable iter env v = pure v := by intro _ _; rfl) : EvN C (.ListComp elt [⟨tgt, iter, ifs, 0⟩] scope pos) σ μ out μ₂ := by
  refine ⟨fun ok B s Z R => ?_⟩
  have SC := comp_kind hsc
  rw [eval_ListComp]
  refine wpAny_comprehension_free (use := none) rfl (hs _) (clos_ok ok hsc) SC.kind (fun x hx e => e ▸ SC.own x hx) (wpAny_mono (hi.run ok B s Z R) ?_ fun _ _ x => x)
  intro xv s₁ h₁
  refine wpAny_mono h₁ ?_ fun _ _ x => x
  rintro it s₂ ⟨I, Z₂, rfl, R₂, L₂, X₂, i₂⟩
  refine comp_core (RR := fun acc L => compPost (Md T) C.A NoE none _ acc L) ok hsc hk hσ hlg hsz R₂ X₂ i₂ run ?_
  intro D L s' Z' m R' L' X' hn
  refine ⟨m, hn, fun h' hs' => ?_⟩
  obtain ⟨R₅, L₅⟩ := R'.off ok.top X'.own X'.nl X'.nc hs'.extBut
  exact ⟨Z', D, rfl, R₅, L₂.trans (L'.trans L₅)⟩
theorem ex_assignU {x : Str} {rest : List Stmt} {K : AF → Sig → Sto → Prop} {σ' : Addr → Sig} (S' : FnS) (σ₀ : Sig) (hi : EvI C iter σ μ tl as μ₁) (hsc : compOk scope S S' = true) (hk : σ₀.map (·.1) = S'.names.map (·.1))
    (hσ : ∀ p ∈ σ₀, p.2 = .un ∨ (p ∈ σ ∧ scope.names.lookup p.1 = some .free)) (hsz : out.length ≤ sizeLine)
    (run : ∀ C' : Cx T S', C'.d = C.d → CRun C' tgt ifs elt σ₀ as μ₁ out μ₂) (U : ∀ l, Up x AV (.own l) σ (σ' l)) (h : ∀ l, Ex C rest (σ' l) ((l, out) :: μ₂) K)
    (hx : (x, false) ∈ S.names) (hline : (p1.line == pos.line) = true) (hns : (scope.names.any fun (n, k) => n == x && (k == .local || k == .cell)) = false)
    (hlg : (∀ it v, letOwnedTupleGo tgt it v = pure ()) ∨ (tl = true ∧ ∃ es k p, tgt = .Tuple es k p) := by first | exact lgN | exact lgT)
    (hs : ∀ env v, foldedSetIterable iter env v = pure v := by intro _ _; rfl) (hro : S.ro = false := by rfl) : Ex C (.Assign [.Name x p1] (.ListComp elt [⟨tgt, iter, ifs, 0⟩] scope pos) spos :: rest) σ μ K := by
  refine ex_cons ⟨fun ok B s Z R => ?_⟩
  have SC := comp_kind hsc
  have hsw : swapsWith (.ListComp elt [⟨tgt, iter, ifs, 0⟩] scope pos) (some (.Name x p1)) spos.line C.env = pure true := by
    show (pure (C.env.blockKind == .function && C.env.kindOf x == some .local && p1.line == pos.line && !(scope.names.any fun (n, k) => n == x && (k == .local || k == .cell))) : Sem Bool) = _
    have hk := (ok.names _ hx).1 rfl
    have hb : C.env.blockKind = .function := by unfold Env.blockKind; simp [ok.kind, ScopeKind.isAnnotationScope]
    rw [hb, hline, hns]
    have hk' : C.env.kindOf x = some .local := hk
    rw [hk']
    rfl
  rw [exec_Assign_Name_used _ _ _ _ hsw]
  refine wpAny_bind (wpAny_standAt (wpAny_bind ?_))
  show wpAny _ _ (do let _ ← comprehension (.ListComp elt [⟨tgt, iter, ifs, 0⟩] scope pos) scope C.env _ (newList []) false (eval iter C.env) (some (assign (.Name x p1) C.env))) _ _ s
  refine wpAny_bind (wpAny_mono (wpAny_comprehension_free (use := some (assign (.Name x p1) C.env)) (Q := fun _ s' => PostX C B s.heap Z (Then C rest K) .next s') rfl (hs _) (clos_ok ok hsc) SC.kind (fun x hx e => e ▸ SC.own x hx) (wpAny_mono (hi.run ok B s Z R) ?_ fun _ _ x => x)) (fun _ s' hq => wpAny_pure (wpAny_pure hq)) fun _ _ e => e)
  intro xv s₁ h₁
  refine wpAny_mono h₁ ?_ fun _ _ x => x
  rintro it s₂ ⟨I, Z₂, rfl, R₂, L₂, X₂, i₂⟩
  refine comp_core (RR := fun acc L => compPost (Md T) C.A NoE (some (assign (.Name x p1) C.env)) _ acc L) ok hsc hk hσ hlg hsz R₂ X₂ i₂ run ?_
  intro D L s' Z' m R' L' X' hn
  show wpAny _ _ (assign (.Name x p1) C.env (.ref D)) _ _ _
  refine wpAny_assign_Name (wpAny_mono (store_name ok hro R'.rebase (U D) (.own D)) ?_ fun _ _ x => x)
  rintro _ s'' ⟨R₅, L₅⟩
  refine ⟨m, ?_, fun h' hs' => ?_⟩
  · exact Ns_keepO hn fun o e => X'.keptO R₅ e
  · have X₅ := X'.through R' R₅
    obtain ⟨R₆, L₆⟩ := (R'.debase R₅).off ok.top X₅.own X₅.nl X₅.nc hs'.extBut
    exact ⟨Z', _, _, .next, R₆, L₂.trans (L'.trans (L₅.trans L₆)), .next, h D⟩
end
end Mine
namespace Mine
open PySem PySem.W PySem.Calls PyProof.Rows PySem.Spec
section
variable {T : TopCx} {S S' : FnS} {C : Cx T S} {B : Base} {s s' : Shared} {Z Z' : Addr → Prop} {σ σ' σ₀ : Sig} {μ μ' μ₁ μ₂ : Sto} {e f t : Expr} {a b c : AV} {as out : List AV} {rest : List Stmt} {K : AF → Sig → Sto → Prop}
theorem Hp.sub (H : Hp T B s Z μ) (h : μ'.Sublist μ) : Hp T B s Z μ' where
  top := H.top
  tab := H.tab
  os := H.os
  gens := H.gens
  tk := H.tk
  keep := H.keep
  z0 := H.z0
  zn := H.zn
  zok := H.zok
  own p hp := H.own p (h.subset hp)
  nd := (h.map _).nodup H.nd
theorem Rp.sub (R : Rp C B s Z σ μ) (h : μ'.Sublist μ) : Rp C B s Z σ μ' where
  toHp := R.toHp.sub h
  keys := R.keys
  frs := R.frs
  loc := ⟨R.loc.big, R.loc.nz, fun p hp => R.loc.nm p (h.subset hp), R.loc.new⟩
  ns := R.ns
  cel x c e := let ⟨h1, h2⟩ := R.cel x c e; ⟨⟨h1.big, h1.nz, fun p hp => h1.nm p (h.subset hp)⟩, h2⟩
theorem ex_drop (h : μ'.Sublist μ) (k : Ex C rest σ μ' K) : Ex C rest σ μ K := ⟨fun ok B s Z R => k.run ok B s Z (R.sub h)⟩
inductive Fz (l : Addr) (xs : List AV) : AV → AV → Prop
  | refl (x : AV) : Fz l xs x x
  | own : Fz l xs (.own l) (.lst xs)
inductive FzL (l : Addr) (xs : List AV) : List AV → List AV → Prop
  | nil : FzL l xs [] []
  | cons {a a' r r'} : Fz l xs a a' → FzL l xs r r' → FzL l xs (a :: r) (a' :: r')
theorem FzL.refl (l xs) : ∀ r, FzL l xs r r
  | [] => .nil
  | _ :: r => .cons (.refl _) (FzL.refl l xs r)
theorem FzL.app {l xs} {r r' t t'} (h : FzL l xs r r') (k : FzL l xs t t') : FzL l xs (r ++ t) (r' ++ t') := by
  induction h with
  | nil => exact k
  | cons x r ih => exact .cons x ih
inductive FzS (l : Addr) (xs : List AV) : Sig → Sig → Prop
  | nil : FzS l xs [] []
  | cons {x a a' r r'} : Fz l xs a a' → FzS l xs r r' → FzS l xs ((x, a) :: r) ((x, a') :: r')
inductive FzM (l : Addr) (xs : List AV) : Sto → Sto → Prop
  | nil : FzM l xs [] []
  | cons {x a a' r r'} : FzL l xs a a' → FzM l xs r r' → FzM l xs ((x, a) :: r) ((x, a') :: r')
theorem FzS.refl (l xs) : ∀ r, FzS l xs r r
  | [] => .nil
  | (_, _) :: r => .cons (.refl _) (FzS.refl l xs r)
theorem FzM.refl (l xs) : ∀ r, FzM l xs r r
  | [] => .nil
  | (_, _) :: r => .cons (FzL.refl _ _ _) (FzM.refl l xs r)
theorem FzS.keys {l xs} {r r' : Sig} (k : FzS l xs r r') : r'.map (·.1) = r.map (·.1) := by
  induction k with
  | nil => rfl
  | cons _ k ih => rw [List.map_cons, List.map_cons, ih]
theorem FzM.keys {l xs} {r r' : Sto} (k : FzM l xs r r') : r'.map (·.1) = r.map (·.1) := by
  induction k with
  | nil => rfl
  | cons _ k ih => rw [List.map_cons, List.map_cons, ih]
theorem FzS.mem {l xs} {r r' : Sig} (k : FzS l xs r r') {x a'} (h : (x, a') ∈ r') : ∃ a, (x, a) ∈ r ∧ Fz l xs a a' := by
  induction k with
  | nil => cases h
  | cons f k ih =>
    rcases List.mem_cons.mp h with e | h
    · obtain ⟨rfl, rfl⟩ := Prod.mk.inj e; exact ⟨_, .head _, f⟩
    · obtain ⟨a, h, f⟩ := ih h; exact ⟨a, .tail _ h, f⟩
theorem FzM.mem {l xs} {r r' : Sto} (k : FzM l xs r r') {x a'} (h : (x, a') ∈ r') : ∃ a, (x, a) ∈ r ∧ FzL l xs a a' := by
  induction k with
  | nil => cases h
  | cons f k ih =>
    rcases List.mem_cons.mp h with e | h
    · obtain ⟨rfl, rfl⟩ := Prod.mk.inj e; exact ⟨_, .head _, f⟩
    · obtain ⟨a, h, f⟩ := ih h; exact ⟨a, .tail _ h, f⟩
theorem Fz.vr {l : Addr} {xs : List AV} {h : Heap} {v : Value} {a a' : AV} (f : Fz l xs a a') (V : VR h Z v a) (hl : VR h Z (.ref l) (.lst xs)) : VR h Z v a' := by
  cases f with
  | refl => exact V
  | own => obtain rfl := V.iown; exact hl
theorem FzL.vr {l : Addr} {xs : List AV} {h : Heap} (hl : VR h Z (.ref l) (.lst xs)) {as as' : List AV} {vs : List Value} (k : FzL l xs as as') (V : VRs h Z vs as) : VRs h Z vs as' := by
  induction k generalizing vs with
  | nil => exact V
  | cons f k ih =>
    obtain ⟨v, w, rfl, V1, q⟩ := V.icons
    exact .cons (f.vr V1 hl) (ih q)
theorem Rp.fz (R : Rp C B s Z σ μ) {l : Addr} {xs : List AV} (hl : VR s.heap Z (.ref l) (.lst xs)) (fs : FzS l xs σ σ') (fm : FzM l xs μ μ') : Rp C B s Z σ' μ' where
  top := R.top
  tab := R.tab
  os := R.os
  gens := R.gens
  tk := R.tk
  keep := R.keep
  z0 := R.z0
  zn := R.zn
  zok := R.zok
  own p hp := by
    obtain ⟨a, h, k⟩ := fm.mem (x := p.1) (a' := p.2) hp
    obtain ⟨h1, h2, h3, vs, n, e, r⟩ := R.own _ h
    exact ⟨h1, h2, h3, vs, n, e, k.vr hl r⟩
  nd := fm.keys ▸ R.nd
  keys := fs.keys.trans R.keys
  frs := R.frs
  loc := ⟨R.loc.big, R.loc.nz, fun p hp => let ⟨a, h, k⟩ := fm.mem (x := p.1) (a' := p.2) hp; R.loc.nm (p.1, a) h, R.loc.new⟩
  ns := by
    obtain ⟨m, hn, r⟩ := R.ns
    refine ⟨m, hn, fun x a' h1 h2 => ?_⟩
    obtain ⟨a, h, k⟩ := fs.mem h1
    rcases r x a h h2 with e | ⟨v, e, V⟩
    · subst e; cases k; exact .inl rfl
    · exact .inr ⟨v, e, k.vr V hl⟩
  cel := fun x c e => by
    obtain ⟨h1, h0, h2, v₀, hc, r⟩ := R.cel x c e
    refine ⟨⟨h1.big, h1.nz, fun p hp => let ⟨a, h, k⟩ := fm.mem (x := p.1) (a' := p.2) hp; h1.nm (p.1, a) h⟩, h0, h2, v₀, hc, fun a' g1 g2 => ?_⟩
    obtain ⟨a, h, k⟩ := fs.mem g1
    rcases r a h g2 with e | ⟨v, e, V⟩
    · subst e; cases k; exact .inl rfl
    · exact .inr ⟨v, e, k.vr V hl⟩
theorem ex_freeze {l : Addr} {xs : List AV} (fs : FzS l xs σ σ') (fm : FzM l xs μ μ') (k : Ex C rest σ' μ' K) : Ex C rest σ ((l, xs) :: μ) K := ⟨fun ok B s Z R => by
  obtain ⟨R₁, V⟩ := R.freezeOwn ok.top
  exact wpAny_mono (k.run ok B s _ (R₁.fz V fs fm)) (fun _ _ p => p.le (le_zAnd _ _ _)) fun _ _ x => x⟩
inductive Rm {α : Type} (p : α) : List α → List α → Prop
  | head {r} : Rm p (p :: r) r
  | tail {q r r'} : Rm p r r' → Rm p (q :: r) (q :: r')
theorem Rm.perm {α : Type} {p : α} : ∀ {l l' : List α}, Rm p l l' → (p :: l').Perm l
  | _, _, .head => .refl _
  | _, _, .tail r => (List.Perm.swap ..).trans (r.perm.cons _)
theorem Rp.perm (R : Rp C B s Z σ μ) (h : μ'.Perm μ) : Rp C B s Z σ μ' where
  top := R.top
  tab := R.tab
  os := R.os
  gens := R.gens
  tk := R.tk
  keep := R.keep
  z0 := R.z0
  zn := R.zn
  zok := R.zok
  own p hp := R.own p (h.subset hp)
  nd := ((h.map _).nodup_iff).mpr R.nd
  keys := R.keys
  frs := R.frs
  loc := ⟨R.loc.big, R.loc.nz, fun p hp => R.loc.nm p (h.subset hp), R.loc.new⟩
  ns := R.ns
  cel x c e := let ⟨h1, h2⟩ := R.cel x c e; ⟨⟨h1.big, h1.nz, fun p hp => h1.nm p (h.subset hp)⟩, h2⟩
theorem ex_freezeAt {l : Addr} {xs : List AV} (rm : Rm (l, xs) μ₁ μ) (fs : FzS l xs σ σ') (fm : FzM l xs μ μ') (k : Ex C rest σ' μ' K) : Ex C rest σ μ₁ K := ⟨fun ok B s Z R =>
  (ex_freeze fs fm k).run ok B s Z (R.perm rm.perm)⟩
inductive PostF (T : TopCx) (B : Base) (μ' : Sto) (h : Heap) (Z : Addr → Prop) (c : AV) (v : Value) (s' : Shared) : Prop
  | mk (Z' : Addr → Prop) (H : Hp T B s' Z' μ') (L : Le h Z s'.heap Z') (V : VR s'.heap Z' v c)
noncomputable def Fn (T : TopCx) (f : Value) (n : Nat) (as : List AV) (μ : Sto) (c : AV) (μ' : Sto) : Prop :=
  ∀ (A : Around) B s Z vs, TopOk T → A.handled = none → A.depth + n < recursionLimit → A.units + 20 * n + 100 < cLine → FrB0 T A B → Hp T B s Z μ → VRs s.heap Z vs as →
    wpAny (Md T) A (call f vs []) (PostF T B μ' s.heap Z c) NoE s
theorem ca_fn {f : Value} {n : Nat} (h : Fn T f n as μ c μ') (hd : n ≤ C.d) : CallA C f as σ μ c μ' := ⟨fun ok B s Z vs R V => by
  have h1 := ok.depth
  have h2 := ok.units
  have hH : Hp T ⟨s.heap, Z, fun a => (∃ p ∈ μ, p.1 = a)⟩ s Z μ := by
    have := R.toHp.rebase (fun _ => False)
    refine ⟨this.top, this.tab, this.os, this.gens, fun a o e _ _ => ⟨o, e, .refl o⟩, this.z0, fun a z => .inl z, this.zok, fun p hp => let ⟨h1, h2, h3, r⟩ := R.own p hp; ⟨h1, h2, .inl ⟨p, hp, rfl⟩, r⟩, this.nd, this.tk⟩
  have hoff : ∀ a, (∃ p ∈ μ, p.1 = a) → OffF C B Z a := fun a ⟨p, hp, e⟩ => e ▸ R.own_off hp
  refine wpAny_mono (h C.A _ s Z vs ok.top ok.hh (by lia) (by lia) (R.frs0 hoff) hH V) ?_ fun _ _ x => x
  rintro v s' ⟨Z', H', L', V'⟩
  exact ⟨Z', R.resume hoff H', L', V'⟩⟩
end
noncomputable def fnOk (scope : Scope) (S : FnS) (params : List Str) : Bool :=
  scOk scope S && !scope.isCoroutine && !scope.isGenerator && S.globs.all (fun p => Gl.contains p) && S.names.all (fun p => !p.2 || scope.names.lookup p.1 == some .cell) && !S.ro && decide params.Nodup && params.all (fun x => scope.names.lookup x == some .local || scope.names.lookup x == some .cell)
theorem bindL_get {kindOf : Str → Option NameKind} {x : Str} {v : Value} (hk : kindOf x = some .local) : ∀ (binds : List (Str × Value)) (m : Str → Option Value), (binds.map (·.1)).Nodup →
    ((x, v) ∈ binds ∨ (x ∉ binds.map (·.1) ∧ m x = some v)) → bindL kindOf binds m x = some v
  | [], m, _, h => by
    rcases h with h | ⟨_, h⟩
    · cases h
    · exact h
  | (y, u) :: r, m, nd, h => by
    unfold bindL
    rw [List.map_cons, List.nodup_cons] at nd
    refine bindL_get hk r _ nd.2 ?_
    rcases h with h | ⟨h1, h2⟩
    · rcases List.mem_cons.mp h with e | h
      · cases e
        exact .inr ⟨nd.1, by rw [if_pos hk]; simp⟩
      · exact .inl h
    · rw [List.map_cons, List.mem_cons, not_or] at h1
      refine .inr ⟨h1.2, ?_⟩
      split
      · show (if x = y then _ else _) = _
        rw [if_neg h1.1]; exact h2
      · exact h2
theorem bindC_get {kindOf : Str → Option NameKind} {x : Str} {v : Value} (hk : ¬ kindOf x = some .local) : ∀ (binds : List (Str × Value)) (m : Str → Option Value), (binds.map (·.1)).Nodup →
    ((x, v) ∈ binds ∨ (x ∉ binds.map (·.1) ∧ m x = some v)) → bindC kindOf binds m x = some v
  | [], m, _, h => by
    rcases h with h | ⟨_, h⟩
    · cases h
    · exact h
  | (y, u) :: r, m, nd, h => by
    unfold bindC
    rw [List.map_cons, List.nodup_cons] at nd
    refine bindC_get hk r _ nd.2 ?_
    rcases h with h | ⟨h1, h2⟩
    · rcases List.mem_cons.mp h with e | h
      · cases e
        exact .inr ⟨nd.1, by rw [if_neg hk]; simp⟩
      · exact .inl h
    · rw [List.map_cons, List.mem_cons, not_or] at h1
      refine .inr ⟨h1.2, ?_⟩
      split
      · exact h2
      · show (if x = y then _ else _) = _
        rw [if_neg h1.1]; exact h2
theorem zip_get {h : Heap} {Z : Addr → Prop} : ∀ {ps : List Str} {vs : List Value} {as : List AV}, VRs h Z vs as → ∀ {x a}, (x, a) ∈ ps.zip as → ∃ v, (x, v) ∈ ps.zip vs ∧ VR h Z v a
  | [], _, _, _, _, _, m => by cases m
  | p :: ps, _, _, .nil, _, _, m => by cases m
  | p :: ps, _, _, .cons V r, x, a, m => by
    rcases List.mem_cons.mp m with e | m
    · cases e; exact ⟨_, .head _, V⟩
    · obtain ⟨v, m, V⟩ := zip_get r m; exact ⟨v, .tail _ m, V⟩
section
variable {prog : Program} {w : World} {A : Around} {s : Shared}
theorem call_cells {R : Result → Shared → Prop} {a : Addr} {o : Obj} {fd : FuncData} {body : List Stmt} {vals : List Value} {binds : List (Str × Value)}
    (hroom : A.depth < recursionLimit) (ho : s.heap.get? a = some o) (hdata : o.data = .func fd) (hlim : s.heap.NoLimit) (hcd : s.heap.CodeRec fd.code fd.qualname)
    (hbody : fd.body = .stmts body) (hbind : bindArgs fd ⟨vals, []⟩ = pure binds) (hclo : fd.closure = [])
    (hkind : ∀ x ∈ binds, fd.scope.names.lookup x.1 = some .local ∨ (fd.scope.names.lookup x.1 = some .cell ∧ ((cellsFrom (s.heap.objs.size + 1) fd.scope.names []).lookup x.1).isSome = true))
    (h : ∀ s₁, InCallC s (callEnvC fd s.heap.objs.size a).locals (bindL (callEnvC fd s.heap.objs.size a).kindOf binds fun _ => none) (callEnvC fd s.heap.objs.size a).cells
        (bindC (callEnvC fd s.heap.objs.size a).kindOf binds fun _ => none) s₁ → s.toks ≤ s₁.toks →
      wpAny (model prog w) (A.deeper (callEnvC fd s.heap.objs.size a)) (execs body (callEnvC fd s.heap.objs.size a)) (fun f s' => R (.ok (.ret (match f with | .ret v => v | _ => .none))) s')
        (fun e s' => wpAny (model prog w) (A.deeper (callEnvC fd s.heap.objs.size a)) (leaving (callEnvC fd s.heap.objs.size a) e) (fun _ s'' => R (.error e) s'') (fun e' s'' => R (.error e') s'') s') s₁)
    (hco : fd.scope.isCoroutine = false) (hgen : fd.scope.isGenerator = false) (hk : fd.scope.kind = .function) :
    codeAny (model prog w) A (.call (.ref a) ⟨vals, []⟩) R s := by
  refine codeAny_call_function hroom ho hdata hco hgen hbody hcd ?_
  rw [hbind, hclo]
  refine wpAny_pure (wpAny_up (wpAny_newFunctionEnv_cells hk hkind fun env he s₁ x hle => ?_))
  subst he
  exact ⟨hlim.keeps x.toInCall.keep, codeAny_func (h s₁ x hle)⟩
end
noncomputable def KRet (c : AV) (μ' : Sto) : AF → Sig → Sto → Prop := fun f _ μ => match f with
  | .ret a => a = c ∧ μ'.Sublist μ
  | .next => c = .none ∧ μ'.Sublist μ
  | _ => False
section
variable {T : TopCx} {S : FnS} {μ μ' : Sto} {c : AV} {as : List AV} {σ₀ : Sig}
theorem fn_enter0 {f : Addr} {i : Nat} {params : List Str} {d : Nat} (hf : (f, i, params) ∈ FL) (hok : fnOk (fscope i) S params = true)
    (hk : σ₀.map (·.1) = S.names.map (·.1)) (hσ : ∀ p ∈ σ₀, p.2 = .un ∨ p ∈ params.zip as) (hl : as.length = params.length)
    {A : Around} {B : Base} {s : Shared} {Z : Addr → Prop} {vs : List Value} {Q : Value → Shared → Prop} {E : Value → Shared → Prop}
    (tok : TopOk T) (hh : A.handled = none) (hdep : A.depth + (d + 1) < recursionLimit) (hun : A.units + 20 * (d + 1) + 100 < cLine) (hfr : FrB0 T A B) (H : Hp T B s Z μ) (V : VRs s.heap Z vs as)
    (h : ∀ (C : Cx T S) (s₁ : Shared), C.d = d → interactive C.env = false → C.Ok → C.A = A.deeper C.env → C.env.frame = some C.env.locals → Rp C B s₁ Z σ₀ μ → (∀ b o, s.heap.get? b = some o → s₁.heap.get? b = some o) → s.heap.get? C.env.locals = none → (∀ fd o, T.hb.get? f = some o → o.data = .func fd → C.env.code = fd.code) →
      wpAny (Md T) C.A (execs (fbody i) C.env) (fun fl s' => Q (match fl with | .ret v => v | _ => .none) s')
        (fun e s' => wpAny (Md T) C.A (leaving C.env e) (fun _ s'' => E e s'') (fun e' s'' => E e' s'') s') s₁) : wpAny (Md T) A (call (.ref f) vs []) Q E s := by
  obtain ⟨fd, ⟨o, ho, hd⟩, Fcd, Fbody, Fsc, Fglob, Fblt, Fclo, hb⟩ := tok.fns _ hf
  dsimp only at ho hb Fbody Fsc
  unfold fnOk at hok
  rw [← Fsc] at hok
  simp only [Bool.and_eq_true, List.all_eq_true, decide_eq_true_eq, Bool.or_eq_true, beq_iff_eq, Bool.not_eq_true'] at hok
  obtain ⟨⟨⟨⟨⟨⟨⟨h1, hco⟩, hgen⟩, hgl⟩, h2⟩, h3⟩, h4⟩, h5⟩ := hok
  have hg : ∀ p ∈ S.globs, T.reads p.1 p.2 := fun p hp => tok.gl p (by simpa using hgl p hp)
  have SC := scOk_of h1
  have hro : S.ro = false := by simpa using h3
  have hlen : vs.length = params.length := V.length.trans hl
  have hfst : (params.zip vs).map (·.1) = params := by
    rw [List.map_fst_zip]; lia
  have cell_get : ∀ n x, (x, NameKind.cell) ∈ fd.scope.names → ∃ c, (cellsFrom n fd.scope.names []).lookup x = some c := fun n x hx => by
    obtain ⟨c, hc⟩ := cellsFrom_get fd.scope.names n [] hx
    exact lookup_some_of_mem hc
  have pk : ∀ p ∈ params.zip vs, p.1 ∈ params := fun p hp => by
    have : p.1 ∈ (params.zip vs).map (·.1) := List.mem_map_of_mem hp
    rwa [hfst] at this
  refine wpAny_call (call_cells (by lia) (H.top _ _ ho) hd (tok.nolimit.keeps H.top) (Fcd.keeps H.top) Fbody (hb vs hlen) Fclo (fun x hx => ?_) (fun s₁ X hle => ?_) hco hgen SC.kind)
  · rcases h5 _ (pk x hx) with e | e
    · exact .inl e
    · obtain ⟨c, hc⟩ := cell_get (s.heap.objs.size + 1) x.1 (mem_of_lookup e)
      exact .inr ⟨e, by rw [hc]; rfl⟩
  · let C : Cx T S := ⟨A.deeper (callEnvC fd s.heap.objs.size f), callEnvC fd s.heap.objs.size f, d⟩
    have ok : C.Ok := {
      top := tok
      hh := hh
      depth := by show A.depth + 1 + d < recursionLimit; lia
      units := by show A.units + 3 + 20 * d + 100 < cLine; lia
      kind := SC.kind
      glob := Fglob
      blt := Fblt
      names := fun p hp => by
        refine ⟨(SC.names p hp).1, fun e => ?_⟩
        have := h2 p hp
        simp [e] at this
        exact ⟨this, cell_get _ _ (mem_of_lookup this)⟩
      nd := SC.nd
      globs := fun p hp => ⟨SC.globs p hp, hg p hp⟩
      inj := fun x y c e1 e2 => name_of_addr X.apart (mem_of_lookup e1) (mem_of_lookup e2)
      dbgN := SC.dbgN
      dbgG := SC.dbgG }
    have hLn : s.heap.get? s.heap.objs.size = none := none_of_le (Nat.le_refl _)
    have hkeep := X.toInCall.keep
    obtain ⟨h', tk, hs₁⟩ := X.toInCall.same
    have H₁ : Hp T B s₁ Z μ := by
      have : s₁.heap = h' := by rw [hs₁]
      exact H.grow (s' := s₁) hkeep (by rw [hs₁]) (by rw [hs₁]; exact H.gens) (Nat.lt_of_lt_of_le H.tk hle)
    have L₁ : Le s.heap Z s₁.heap Z := Le.of_keep hkeep
    have R : Rp C B s₁ Z σ₀ μ := {
      toHp := H₁
      keys := hk
      frs := by
        obtain ⟨l, hl, k⟩ := hfr
        refine ⟨callEnvC fd s.heap.objs.size f :: l, by show A.frames.map _ = _; rw [hl]; rfl, fun env he => ?_⟩
        rcases List.mem_cons.mp he with rfl | he
        · exact ⟨by show fd.scope.kind ≠ .module; rw [SC.kind]; decide, s.heap.objs.size, rfl, (H.none_new hLn).big.1, .inl rfl⟩
        · obtain ⟨a, L, b, c, d⟩ := k env he
          exact ⟨a, L, b, c, .inr d⟩
      loc := H.none_new hLn
      ns := ⟨_, X.toInCall.ns, fun x a g1 g2 => by
        rcases hσ _ g1 with e | g1
        · exact .inl e
        · obtain ⟨v, hv, Vv⟩ := zip_get V g1
          exact .inr ⟨v, bindL_get ((SC.names _ g2).1 rfl) _ _ (by rw [hfst]; exact h4) (.inl hv), Vv.mono L₁⟩⟩
      cel := fun x c e => by
        have hlt := X.above x c (mem_of_lookup e)
        have F := H.none_new (none_of_le (Nat.le_of_lt hlt))
        refine ⟨⟨F.big, F.nz, F.nm⟩, fun _ => F.new, fun q => ?_, _, X.cell x c e, fun a g1 g2 => ?_⟩
        · rw [q] at hlt; exact absurd hlt (Nat.lt_irrefl _)
        · rcases hσ _ g1 with e | g1
          · exact .inl e
          · obtain ⟨v, hv, Vv⟩ := zip_get V g1
            have hkc : C.env.kindOf x = some .cell := ((ok.names _ g2).2 rfl).1
            exact .inr ⟨v, bindC_get (fun q => by
              have q' : C.env.kindOf x = some .local := q
              rw [hkc] at q'; cases q') _ _ (by rw [hfst]; exact h4) (.inl hv), Vv.mono L₁⟩ }
    exact h C s₁ rfl (by show (fd.scope.kind == .module && _) = false; rw [SC.kind]; rfl) ok rfl rfl R hkeep hLn fun fd' o' e1 e2 => by
      have q1 : o = o' := Option.some.inj (ho.symm.trans e1)
      subst q1
      have q2 : fd = fd' := by rw [hd] at e2; cases e2; rfl
      subst q2; rfl
theorem fn_enter {f : Addr} {i : Nat} {params : List Str} {d : Nat} (hf : (f, i, params) ∈ FL) (hok : fnOk (fscope i) S params = true)
    (hk : σ₀.map (·.1) = S.names.map (·.1)) (hσ : ∀ p ∈ σ₀, p.2 = .un ∨ p ∈ params.zip as) (hl : as.length = params.length)
    {A : Around} {B : Base} {s : Shared} {Z : Addr → Prop} {vs : List Value} {Q : Value → Shared → Prop} {E : Value → Shared → Prop}
    (tok : TopOk T) (hh : A.handled = none) (hdep : A.depth + (d + 1) < recursionLimit) (hun : A.units + 20 * (d + 1) + 100 < cLine) (hfr : FrB0 T A B) (H : Hp T B s Z μ) (V : VRs s.heap Z vs as)
    (h : ∀ (C : Cx T S) (s₁ : Shared), C.d = d → interactive C.env = false → C.Ok → C.A = A.deeper C.env → C.env.frame = some C.env.locals → Rp C B s₁ Z σ₀ μ → (∀ b o, s.heap.get? b = some o → s₁.heap.get? b = some o) → s.heap.get? C.env.locals = none →
      wpAny (Md T) C.A (execs (fbody i) C.env) (fun fl s' => Q (match fl with | .ret v => v | _ => .none) s')
        (fun e s' => wpAny (Md T) C.A (leaving C.env e) (fun _ s'' => E e s'') (fun e' s'' => E e' s'') s') s₁) : wpAny (Md T) A (call (.ref f) vs []) Q E s :=
  fn_enter0 hf hok hk hσ hl tok hh hdep hun hfr H V fun C s₁ a b c d e f g i _ => h C s₁ a b c d e f g i
theorem fn_intro {f : Addr} {i : Nat} {params : List Str} {d : Nat} (hf : (f, i, params) ∈ FL) (hok : fnOk (fscope i) S params = true)
    (hk : σ₀.map (·.1) = S.names.map (·.1)) (hσ : ∀ p ∈ σ₀, p.2 = .un ∨ p ∈ params.zip as) (hl : as.length = params.length)
    (h : (μ.map (·.1)).Nodup → ∀ C : Cx T S, C.d = d → interactive C.env = false → Ex C (fbody i) σ₀ μ (KRet c μ')) : Fn T (.ref f) (d + 1) as μ c μ' := by
  intro A B s Z vs tok hh hdep hun hfr H V
  refine fn_enter hf hok hk hσ hl tok hh hdep hun hfr H V fun C s₁ hC hI ok hA hF R hkeep hL => ?_
  refine wpAny_mono ((h H.nd C hC hI).run ok B s₁ Z R) ?_ fun _ _ x => x.elim
  have L₁ : Le s.heap Z s₁.heap Z := Le.of_keep hkeep
  rintro fl s' ⟨Z', σ', μ'', f', R', L', F', k⟩
  cases F' with
  | next => obtain ⟨rfl, k⟩ := k; exact ⟨Z', R'.toHp.sub k, L₁.trans L', .none⟩
  | brk => exact k.elim
  | cont => exact k.elim
  | ret V' => obtain ⟨rfl, k⟩ := k; exact ⟨Z', R'.toHp.sub k, L₁.trans L', V'⟩
theorem fn_introC {f : Addr} {i : Nat} {params : List Str} {d : Nat} (hf : (f, i, params) ∈ FL) (hok : fnOk (fscope i) S params = true)
    (hk : σ₀.map (·.1) = S.names.map (·.1)) (hσ : ∀ p ∈ σ₀, p.2 = .un ∨ p ∈ params.zip as) (hl : as.length = params.length)
    (h : (μ.map (·.1)).Nodup → ∀ C : Cx T S, C.d = d → interactive C.env = false → (∀ fd o, T.hb.get? f = some o → o.data = .func fd → C.env.code = fd.code) → Ex C (fbody i) σ₀ μ (KRet c μ')) : Fn T (.ref f) (d + 1) as μ c μ' := by
  intro A B s Z vs tok hh hdep hun hfr H V
  refine fn_enter0 hf hok hk hσ hl tok hh hdep hun hfr H V fun C s₁ hC hI ok hA hF R hkeep hL hcode => ?_
  refine wpAny_mono ((h H.nd C hC hI hcode).run ok B s₁ Z R) ?_ fun _ _ x => x.elim
  have L₁ : Le s.heap Z s₁.heap Z := Le.of_keep hkeep
  rintro fl s' ⟨Z', σ', μ'', f', R', L', F', k⟩
  cases F' with
  | next => obtain ⟨rfl, k⟩ := k; exact ⟨Z', R'.toHp.sub k, L₁.trans L', .none⟩
  | brk => exact k.elim
  | cont => exact k.elim
  | ret V' => obtain ⟨rfl, k⟩ := k; exact ⟨Z', R'.toHp.sub k, L₁.trans L', V'⟩
end
end Mine
namespace Mine
open PySem PySem.W PySem.Calls PyProof.Rows PySem.Spec PySem.SeqAt AutoSeq1
theorem tup_lt (l b : Addr) (i j i' j' : Int) (t u t' u' : Tok) (r r' : List Value) (n n2 : Nat) (hne : i ≠ i' ∨ j ≠ j') :
    Meets (Builtin.«tuple.__lt__» ⟨[.ref l, .ref b], []⟩)
      (fun A R s => s.heap.get? l = some (tupOf (Value.int i t :: Value.int j u :: r).toArray n) ∧ s.heap.get? b = some (tupOf (Value.int i' t' :: Value.int j' u' :: r').toArray n2) ∧
        R (.ok (.ret (.bool (decide (i < i' ∨ (i = i' ∧ j < j')))))) s) :=
  .of_wp fun prog w A R s h => by
    obtain ⟨hp, g, d, tk, os⟩ := s; obtain ⟨hl, hb, h⟩ := h
    have f2 := AutoSeq1.sub_tuple_tuple
    wp_walk using wpAny_loadPart' hl, wpAny_loadPart' hb, wpAny_forIn_list _ (fun rest b s' => b.1 = none ∧ s' = ⟨hp, g, d, tk, os⟩ ∧
      (rest = (Value.int i t, Value.int i' t') :: (Value.int j u, Value.int j' u') :: r.zip r' ∨ (rest = (Value.int j u, Value.int j' u') :: r.zip r' ∧ i = i'))) _
    case turn =>
      rintro ⟨y, x⟩ rest b s' ⟨hb', rfl, hz⟩
      rcases hz with hz | ⟨hz, hi⟩ <;> injection hz with h1 h2 <;> injection h1 with h3 h4 <;> subst h3 h4 h2
      · refine wpAny_bind (EqAt.int_int i t i' t' prog w _ _ ?_)
        by_cases hi : i = i'
        · rw [show (i == i') = true by simpa using hi]
          wp_walk
          exact ⟨rfl, rfl, .inr ⟨rfl, hi⟩⟩
        · rw [show (i == i') = false by simpa using hi]
          have hd : decide (i < i' ∨ (i = i' ∧ j < j')) = decide (i < i') := by simp [hi, Ne.symm hi]
          rw [hd] at h
          refine wpAny_bind (wpAny_rule (wpAny_bind (id (PyProof.Rows.lt_int ?_))))
          exact wpAny_bind (wpAny_pure (wpAny_pure (wpAny_pure ⟨_, rfl, h⟩)))
      · refine wpAny_bind (EqAt.int_int j u j' u' prog w _ _ ?_)
        have hj : j ≠ j' := hne.resolve_left fun q => q hi
        rw [show (j == j') = false by simpa using hj]
        have hd : decide (i < i' ∨ (i = i' ∧ j < j')) = decide (j < j') := by subst hi; simp
        rw [hd] at h
        refine wpAny_bind (wpAny_rule (wpAny_bind (id (PyProof.Rows.lt_int ?_))))
        exact wpAny_bind (wpAny_pure (wpAny_pure (wpAny_pure ⟨_, rfl, h⟩)))
    case fin =>
      rintro ⟨b1, b2⟩ s' ⟨hb', rfl, hz⟩
      rcases hz with hz | ⟨hz, hi⟩ <;> cases hz
    case h =>
      exact ⟨rfl, rfl, .inl rfl⟩
theorem tup_gt (l b : Addr) (i j i' j' : Int) (t u t' u' : Tok) (r r' : List Value) (n n2 : Nat) (hne : i ≠ i' ∨ j ≠ j') :
    Meets (Builtin.«tuple.__gt__» ⟨[.ref l, .ref b], []⟩)
      (fun A R s => s.heap.get? l = some (tupOf (Value.int i t :: Value.int j u :: r).toArray n) ∧ s.heap.get? b = some (tupOf (Value.int i' t' :: Value.int j' u' :: r').toArray n2) ∧
        R (.ok (.ret (.bool (decide (i' < i ∨ (i' = i ∧ j' < j)))))) s) :=
  .of_wp fun prog w A R s h => by
    obtain ⟨hp, g, d, tk, os⟩ := s; obtain ⟨hl, hb, h⟩ := h
    have f2 := AutoSeq1.sub_tuple_tuple
    wp_walk using wpAny_loadPart' hl, wpAny_loadPart' hb, wpAny_forIn_list _ (fun rest b s' => b.1 = none ∧ s' = ⟨hp, g, d, tk, os⟩ ∧
      (rest = (Value.int i t, Value.int i' t') :: (Value.int j u, Value.int j' u') :: r.zip r' ∨ (rest = (Value.int j u, Value.int j' u') :: r.zip r' ∧ i = i'))) _
    case turn =>
      rintro ⟨y, x⟩ rest b s' ⟨hb', rfl, hz⟩
      rcases hz with hz | ⟨hz, hi⟩ <;> injection hz with h1 h2 <;> injection h1 with h3 h4 <;> subst h3 h4 h2
      · refine wpAny_bind (EqAt.int_int i t i' t' prog w _ _ ?_)
        by_cases hi : i = i'
        · rw [show (i == i') = true by simpa using hi]
          wp_walk
          exact ⟨rfl, rfl, .inr ⟨rfl, hi⟩⟩
        · rw [show (i == i') = false by simpa using hi]
          have hd : decide (i' < i ∨ (i' = i ∧ j' < j)) = decide (i' < i) := by simp [hi, Ne.symm hi]
          rw [hd] at h
          refine wpAny_bind (wpAny_rule (wpAny_bind (id (PyProof.Rows.gt_int ?_))))
          exact wpAny_bind (wpAny_pure (wpAny_pure (wpAny_pure ⟨_, rfl, h⟩)))
      · refine wpAny_bind (EqAt.int_int j u j' u' prog w _ _ ?_)
        have hj : j ≠ j' := hne.resolve_left fun q => q hi
        rw [show (j == j') = false by simpa using hj]
        have hd : decide (i' < i ∨ (i' = i ∧ j' < j)) = decide (j' < j) := by subst hi; simp
        rw [hd] at h
        refine wpAny_bind (wpAny_rule (wpAny_bind (id (PyProof.Rows.gt_int ?_))))
        exact wpAny_bind (wpAny_pure (wpAny_pure (wpAny_pure ⟨_, rfl, h⟩)))
    case fin =>
      rintro ⟨b1, b2⟩ s' ⟨hb', rfl, hz⟩
      rcases hz with hz | ⟨hz, hi⟩ <;> cases hz
    case h =>
      exact ⟨rfl, rfl, .inl rfl⟩
section
variable {T : TopCx} {S : FnS} {C : Cx T S} {B : Base} {s : Shared} {Z : Addr → Prop} {σ : Sig} {μ μ₁ μ₂ μ₃ μ' : Sto} {pos p1 p2 : Pos} {e f g t : Expr} {a b c : AV} {rest : List Stmt} {K : AF → Sig → Sto → Prop}
theorem cmp_ltr {i j i' j' : Int} {r r' : List AV} (h : i ≠ i' ∨ j ≠ j') : Cmp C .Lt (.tup (.int i :: .int j :: r)) (.tup (.int i' :: .int j' :: r')) σ μ (decide (i < i' ∨ (i = i' ∧ j < j'))) := ⟨fun ok B s Z v w R V W => by
  obtain ⟨_, _, _, rfl, z1, e1, r1⟩ := V.itup
  obtain ⟨_, _, rfl, V1, q1⟩ := r1.icons
  obtain ⟨_, _, rfl, V2, q2⟩ := q1.icons
  obtain ⟨_, _, _, rfl, z2, e2, r2⟩ := W.itup
  obtain ⟨_, _, rfl, W1, p1⟩ := r2.icons
  obtain ⟨_, _, rfl, W2, p2⟩ := p1.icons
  obtain ⟨_, rfl⟩ := V1.iint
  obtain ⟨_, rfl⟩ := V2.iint
  obtain ⟨_, rfl⟩ := W1.iint
  obtain ⟨_, rfl⟩ := W2.iint
  ·           have hu := ok.units
              exact richCompare_meets_room (op := .Lt) ⟨_, e1, rfl⟩ ⟨_, e2, rfl⟩ F.slot_tuple_lt F.entry_tuple_lt (F.args_tuple_lt_2 _ _) (tup_lt _ _ _ _ _ _ _ _ _ _ _ _ _ _ h) ⟨e1, e2, (fun x => nomatch x), PostS.mk0 R (.bool _)⟩ (by lia)⟩
theorem cmp_gtr {i j i' j' : Int} {r r' : List AV} (h : i ≠ i' ∨ j ≠ j') : Cmp C .Gt (.tup (.int i :: .int j :: r)) (.tup (.int i' :: .int j' :: r')) σ μ (decide (i' < i ∨ (i' = i ∧ j' < j))) := ⟨fun ok B s Z v w R V W => by
  obtain ⟨_, _, _, rfl, z1, e1, r1⟩ := V.itup
  obtain ⟨_, _, rfl, V1, q1⟩ := r1.icons
  obtain ⟨_, _, rfl, V2, q2⟩ := q1.icons
  obtain ⟨_, _, _, rfl, z2, e2, r2⟩ := W.itup
  obtain ⟨_, _, rfl, W1, p1⟩ := r2.icons
  obtain ⟨_, _, rfl, W2, p2⟩ := p1.icons
  obtain ⟨_, rfl⟩ := V1.iint
  obtain ⟨_, rfl⟩ := V2.iint
  obtain ⟨_, rfl⟩ := W1.iint
  obtain ⟨_, rfl⟩ := W2.iint
  ·           have hu := ok.units
              exact richCompare_meets_room (op := .Gt) ⟨_, e1, rfl⟩ ⟨_, e2, rfl⟩ F.slot_tuple_gt F.entry_tuple_gt (F.args_tuple_gt_2 _ _) (tup_gt _ _ _ _ _ _ _ _ _ _ _ _ _ _ h) ⟨e1, e2, (fun x => nomatch x), PostS.mk0 R (.bool _)⟩ (by lia)⟩
theorem cmp_eq_nil {l : List AV} (h : LstAt μ a l) (hl : l.length < 2 ^ 62) : Cmp C .Eq a (.lst []) σ μ l.isEmpty := ⟨fun ok B s Z v w R V W => by
  obtain ⟨x, vs, n, rfl, e, r⟩ := h.at R.toHp V
  have hu := ok.units
  have hlen := r.length
  obtain ⟨_, _, _, rfl, z2, e2, r2⟩ := W.ilst
  obtain rfl := r2.inil
  · cases l with
    | nil =>
      obtain rfl := r.inil
      refine eq_listAt (e := fun _ => true) (isList_of e) (isList_of e2) rfl (by lia) (fun j h1 h2 => absurd h1 (by simp)) ?_
      exact PostS.mk0 R (.bool _)
    | cons y l =>
      refine eq_list_lengthsAt (isList_of e) (isList_of e2) (by rw [bne_iff_ne]; simp; intro q; rw [q] at hlen; simp at hlen) (by lia) ?_
      exact PostS.mk0 R (.bool _)⟩
theorem cmp_ne_nil {l : List AV} (h : LstAt μ a l) (hl : l.length < 2 ^ 62) : Cmp C .NotEq a (.lst []) σ μ (!l.isEmpty) := ⟨fun ok B s Z v w R V W => by
  obtain ⟨x, vs, n, rfl, e, r⟩ := h.at R.toHp V
  have hu := ok.units
  have hlen := r.length
  obtain ⟨_, _, _, rfl, z2, e2, r2⟩ := W.ilst
  obtain rfl := r2.inil
  · cases l with
    | nil =>
      obtain rfl := r.inil
      refine richCompare_meets_room (op := .NotEq) ⟨_, e, rfl⟩ ⟨_, e2, rfl⟩ F.slot_list_ne F.entry_list_ne (F.args_list_ne_2 _ _) (list_neAt _ _ _ _ _ _ _ _ _ _ rfl fun _ => false) ⟨e, e2, fun j h1 h2 => absurd h1 (by simp), (fun x => nomatch x), ?_⟩ (by lia)
      exact PostS.mk0 R (.bool _)
    | cons y l =>
      refine richCompare_meets_room (op := .NotEq) ⟨_, e, rfl⟩ ⟨_, e2, rfl⟩ F.slot_list_ne F.entry_list_ne (F.args_list_ne_2 _ _) (list_ne_lengthsAt _ _ _ _ _ _ _ _ _ _ (by rw [bne_iff_ne]; simp; intro q; rw [q] at hlen; simp at hlen)) ⟨e, e2, (fun x => nomatch x), ?_⟩ (by lia)
      exact PostS.mk0 R (.bool _)⟩
theorem cmp_in_strs {x : List Nat} {l : List (List Nat)} : Cmp C .In (.str x) (.tup (l.map .str)) σ μ (l.any (· == x)) := ⟨fun ok B s Z v w R V W => by
  obtain ⟨tk, rfl⟩ := V.istr
  obtain ⟨ax, vs, n, rfl, z2, e2, r2⟩ := W.itup
  ·
      have lemS : ∀ {l : List (List Nat)} {vs : List Value}, VRs s.heap Z vs (l.map .str) → (∀ y ∈ vs, ∃ z t, y = .str (stv z) t) ∧ vs.any (fun y => match y with | .str z _ => z == stv x | _ => false) = l.any (· == x) := by
        intro l
        induction l with
        | nil => intro vs r; obtain rfl := r.inil; exact ⟨fun y h => (nomatch h), rfl⟩
        | cons z l ih =>
          intro vs r
          obtain ⟨_, _, rfl, V1, r1⟩ := r.icons
          obtain ⟨t, rfl⟩ := V1.istr
          ·
              obtain ⟨h1, h2⟩ := ih r1
              refine ⟨fun y hy => ?_, ?_⟩
              · rcases List.mem_cons.mp hy with rfl | hy
                · exact ⟨_, _, rfl⟩
                · exact h1 y hy
              · rw [List.any_cons, List.any_cons, h2]
                congr 1
                rw [Bool.eq_iff_iff]
                simp only [beq_iff_eq]
                constructor
                · intro q; have := congrArg (·.cps.toList) q; simpa using this
                · intro q; rw [q]
      obtain ⟨h1, h2⟩ := lemS r2
      refine in_tupleAt (fun y => match y with | .str z _ => z == stv x | _ => false) ⟨_, e2, rfl, n, rfl⟩ (fun y hy => ?_) ?_
      · obtain ⟨z, t, rfl⟩ := h1 y (by simpa using hy)
        exact EqAt.str_str _ _ _ _
      · have : (vs.toArray.any fun y => match y with | .str z _ => z == stv x | _ => false) = l.any (· == x) := by rw [← h2]; simp
        rw [this]
        exact PostS.mk0 R (.bool _)⟩
theorem cmp_nin_ints {i : Int} {l : List Int} : Cmp C .NotIn (.int i) (.lst (l.map .int)) σ μ (!(l.any (· == i))) := ⟨fun ok B s Z v w R V W => by
  obtain ⟨tk, rfl⟩ := V.iint
  obtain ⟨ax, vs, n, rfl, z2, e2, r2⟩ := W.ilst
  ·
      have lemI : ∀ {l : List Int} {vs : List Value}, VRs s.heap Z vs (l.map .int) → (∀ y ∈ vs, ∃ z t, y = .int z t) ∧ vs.any (fun y => match y with | .int z _ => z == i | _ => false) = l.any (· == i) := by
        intro l
        induction l with
        | nil => intro vs r; obtain rfl := r.inil; exact ⟨fun y h => (nomatch h), rfl⟩
        | cons z l ih =>
          intro vs r
          obtain ⟨_, _, rfl, V1, r1⟩ := r.icons
          obtain ⟨t, rfl⟩ := V1.iint
          ·
              obtain ⟨h1, h2⟩ := ih r1
              refine ⟨fun y hy => ?_, ?_⟩
              · rcases List.mem_cons.mp hy with rfl | hy
                · exact ⟨_, _, rfl⟩
                · exact h1 y hy
              · rw [List.any_cons, List.any_cons, h2]
      obtain ⟨h1, h2⟩ := lemI r2
      refine notIn_listAt (fun y => match y with | .int z _ => z == i | _ => false) (isList_of e2) (fun y hy => ?_) ?_
      · obtain ⟨z, t, rfl⟩ := h1 y (by simpa using hy)
        exact EqAt.int_int _ _ _ _
      · have : (vs.toArray.any fun y => match y with | .int z _ => z == i | _ => false) = l.any (· == i) := by rw [← h2]; simp
        rw [this]
        exact PostS.mk0 R (.bool _)⟩
theorem evt_chain {o1 o2 : CmpOp} {x y : Bool} (hl : EvS C e σ μ a μ₁) (h1 : EvS C f σ μ₁ b μ₂) (hc1 : Cmp C o1 a b σ μ₂ x) (h2 : x = true → EvS C g σ μ₂ c μ₂) (hc2 : x = true → Cmp C o2 b c σ μ₂ y)
    (hm : lastMarks [o1, o2] [f, g] = false := by with_unfolding_all rfl) : EvT C (.Compare e [o1, o2] [f, g] pos) σ μ (x && y) μ₂ := by
  refine ⟨fun ok B s Z R => ?_⟩
  refine isTrue_chain (wpAny_mono (hl.run ok B s Z R) ?_ fun _ _ x => x) hm
  rintro v s₁ ⟨Z₁, R₁, L₁, V₁⟩
  refine test_link (wpAny_mono (h1.run ok B s₁ Z₁ R₁) ?_ fun _ _ x => x)
  rintro w s₂ ⟨Z₂, R₂, L₂, V₂⟩
  refine wpAny_mono (hc1.run ok B s₂ Z₂ v w R₂ (V₁.mono L₂) V₂) ?_ fun _ _ x => x
  rintro u s₃ ⟨Z₃, R₃, L₃, V₃⟩
  obtain rfl := V₃.ibool
  refine wpAny_truthy_bool ?_
  cases x with
  | false => exact ⟨rfl, Z₃, R₃, L₁.trans (L₂.trans L₃)⟩
  | true =>
    simp only [if_true]
    refine test_last (wpAny_mono ((h2 rfl).run ok B s₃ Z₃ R₃) ?_ fun _ _ x => x)
    rintro z s₄ ⟨Z₄, R₄, L₄, V₄⟩
    refine wpAny_mono ((hc2 rfl).run ok B s₄ Z₄ w z R₄ (V₂.mono (L₃.trans L₄)) V₄) ?_ fun _ _ x => x
    rintro u s₅ ⟨Z₅, R₅, L₅, V₅⟩
    obtain rfl := V₅.ibool
    exact wpAny_truthy_bool ⟨by simp, Z₅, R₅, L₁.trans (L₂.trans (L₃.trans (L₄.trans L₅)))⟩
theorem le_up {n m k : Nat} (h : m ≤ k) (d : Nat.ble n m = true) : n ≤ k := Nat.le_trans (Nat.le_of_ble_eq_true d) h
theorem lt_up {n m k : Nat} (h : n < m) (d : Nat.ble m k = true) : n < k := Nat.lt_of_lt_of_le h (Nat.le_of_ble_eq_true d)
theorem lt_upl {n m k : Nat} (h : n ≤ m) (d : Nat.blt m k = true) : n < k := Nat.lt_of_le_of_lt h (Nat.le_of_ble_eq_true d)
inductive PostU (C : Cx T S) (B : Base) (σ : Sig) (μ' : Sto) (h : Heap) (Z : Addr → Prop) (s' : Shared) : Prop
  | mk (Z' : Addr → Prop) (R : Rp C B s' Z' σ μ') (L : Le h Z s'.heap Z')
structure SetI (C : Cx T S) (a : AV) (i : Int) (b : AV) (σ : Sig) (μ μ' : Sto) : Prop where
  run : C.Ok → ∀ B s Z v u w, Rp C B s Z σ μ → VR s.heap Z v a → VR s.heap Z w b → wpAny (Md T) C.A (setItem v (.int i u) w) (fun _ => PostU C B σ μ' s.heap Z) NoE s
theorem set_own {x : Addr} {l : List AV} {i : Int} (hm : (x, l) ∈ μ) (U : Up x (List AV) (l.set i.toNat b) μ μ') (h0 : 0 ≤ i) (hn : i < l.length) (hl : l.length < 2 ^ 62) : SetI C (.own x) i b σ μ μ' := ⟨fun ok B s Z v u w R V W => by
  obtain rfl := V.iown
  obtain ⟨h1, h2, h3, vs, n, e, r⟩ := R.own _ hm
  have hlen := r.length
  dsimp only at e r hlen
  refine ki_setAt e h0 (by lia) (by simp; lia) ?_
  have q := PySem.IsL.update e (fun xs => xs.setIfInBounds i.toNat w)
  have hq : (vs.toArray.setIfInBounds i.toNat w) = (vs.set i.toNat w).toArray := by simp
  rw [hq] at q
  obtain ⟨R', L⟩ := R.setOwn ok.top U (Heap.SameBut.update ..).extBut q (r.set W i.toNat)
  exact ⟨Z, R', L⟩⟩
theorem asg_item {i : Int} {K : Sig → Sto → Prop} (ho : EvS C e σ μ a μ₁) (hi : EvS C f σ μ₁ (.int i) μ₂) (hs : SetI C a i b σ μ₂ μ₃) (h : K σ μ₃) : Asg C (.Subscript e f pos) b σ μ K := by
  refine ⟨fun ok B s Z v R V => ?_⟩
  rw [assign_Subscript]
  refine wpAny_bind (wpAny_holding (wpAny_mono (ho.run ok B s Z R) ?_ fun _ _ x => x))
  rintro ov s₂ ⟨Z₂, R₂, L₂, V₂⟩
  refine wpAny_bind (wpAny_holding (wpAny_mono (hi.run ok B s₂ Z₂ R₂) ?_ fun _ _ x => x))
  rintro iv s₃ ⟨Z₃, R₃, L₃, V₃⟩
  obtain ⟨_, rfl⟩ := V₃.iint
  refine wpAny_bind (wpAny_standAt (wpAny_bind (wpAny_holding (wpAny_mono (hs.run ok B s₃ Z₃ ov _ v R₃ (V₂.mono L₃) (V.mono (L₂.trans L₃))) ?_ fun _ _ x => x))))
  rintro _ s₄ ⟨Z₄, R₄, L₄⟩
  exact wpAny_release' ⟨Z₄, σ, μ₃, R₄, L₂.trans (L₃.trans L₄), h⟩
theorem ex_set {i : Int} (hv : EvS C g σ μ b μ₁) (ho : EvS C e σ μ₁ a μ₂) (hi : EvS C f σ μ₂ (.int i) μ₃) (hs : SetI C a i b σ μ₃ μ') (h : Ex C rest σ μ' K)
    (hw : ∀ env, swapsWith g (some (.Subscript e f p1)) pos.line env = pure false := by intro _; rfl) : Ex C (.Assign [.Subscript e f p1] g pos :: rest) σ μ K := by
  refine ex_cons ⟨fun ok B s Z R => ?_⟩
  refine wpAny_Assign_Subscript (wpAny_mono (hv.run ok B s Z R) ?_ fun _ _ x => x) (hw _)
  rintro v s₁ ⟨Z₁, R₁, L₁, V₁⟩
  refine wpAny_mono (ho.run ok B s₁ Z₁ R₁) ?_ fun _ _ x => x
  rintro ov s₂ ⟨Z₂, R₂, L₂, V₂⟩
  refine wpAny_mono (hi.run ok B s₂ Z₂ R₂) ?_ fun _ _ x => x
  rintro iv s₃ ⟨Z₃, R₃, L₃, V₃⟩
  obtain ⟨_, rfl⟩ := V₃.iint
  refine wpAny_mono (hs.run ok B s₃ Z₃ ov _ v R₃ (V₂.mono L₃) (V₁.mono (L₂.trans L₃))) ?_ fun _ _ x => x
  rintro _ s₄ ⟨Z₄, R₄, L₄⟩
  exact ⟨Z₄, σ, μ', .next, R₄, L₁.trans (L₂.trans (L₃.trans L₄)), .next, h⟩
end
section
variable {T : TopCx} {S : FnS} {C : Cx T S} {σ : Sig} {μ : Sto}
theorem keeps_fn {x : Addr} (h : x ∈ FL.map (·.1)) : Keeps1 C (.ref x) σ μ := ⟨fun ok B s Z R Q hq => by
  obtain ⟨p, hp, rfl⟩ := List.mem_map.mp h
  obtain ⟨fd, ⟨o, ho, hd⟩, _⟩ := ok.top.fns p hp
  exact (keeps_def ho hd).run ok B s Z R Q hq⟩
theorem op_fdivN {m n : Nat} (hn : 0 < n) (h1 : m < 2 ^ 62) (h2 : n < 2 ^ 29) : Op2 C .FloorDiv (.int (m : Int)) (.int (n : Int)) σ μ (.int ((m / n : Nat) : Int)) := by
  have := op_fdiv (C := C) (σ := σ) (μ := μ) (i := m) (j := n) (by lia) (by lia) (by lia)
  rwa [Int.fdiv_eq_ediv_of_nonneg _ (by lia), ← Int.natCast_ediv] at this
theorem op_modN {m n : Nat} (hn : 0 < n) : Op2 C .Mod (.int (m : Int)) (.int (n : Int)) σ μ (.int ((m % n : Nat) : Int)) := by
  have := op_mod (C := C) (σ := σ) (μ := μ) (i := m) (j := n) (by lia)
  rwa [Int.fmod_eq_emod_of_nonneg _ (by lia), ← Int.natCast_emod] at this
end
end Mine
namespace Mine
open PySem PySem.W PySem.Calls PyProof.Rows PySem.Spec
local macro_rules | `(tactic| dictfold_has) => `(tactic| first | assumption | (with_reducible exact List.mem_cons_self) | ((with_reducible refine List.mem_cons_of_mem _ ?_); dictfold_has))
local macro_rules | `(tactic| dictfold_puts) => `(tactic| first | assumption | (with_reducible exact Up.head) | ((with_reducible apply Up.tail); dictfold_puts))
local macro_rules | `(tactic| sl_keep) => `(tactic| first | (intro p hp; cases hp; done) | (refine List.forall_mem_cons.mpr ⟨by first | exact Or.inl rfl | exact Or.inr ⟨by dictfold_has, by dsimp only; decide +kernel⟩, ?_⟩; sl_keep))
local macro_rules | `(tactic| sl_close) => `(tactic| first | exact FzS.nil | ((with_reducible apply FzS.cons Fz.own); sl_close) | ((with_reducible apply FzS.cons (Fz.refl _)); sl_close))
local macro_rules | `(tactic| room) => `(tactic| first | assumption | exact le_up (by assumption) rfl | exact lt_up (by assumption) rfl | exact lt_upl (by assumption) rfl | lia)
local macro_rules | `(tactic| dictfold_shaped2) => `(tactic| first
  | exact op_add | exact op_sub | exact cmp_lt | exact cmp_le | exact cmp_gt | exact cmp_ge | exact cmp_eq | exact cmp_ne | exact cmp_eqs | exact cmp_nes | exact cmp_les | exact cmp_gts | exact cmp_ins | exact cmp_nins
  | exact keeps_builtin | exact keeps_type | exact tru_bool | exact tru_int
  | ((first | apply keeps_fn | apply op_shr | apply op_modN | apply op_mod); decide) | (apply op_fdivN; decide; lia; decide) | (apply op_fdiv; decide; lia; decide) | (apply op_adds; simp; lia) | (apply tru_str; lia) | (apply op_mul; exact IntMulOk.of_left (by decide +kernel)))
local macro_rules | `(tactic| dictfold_shaped) => `(tactic| first
  | exact ev_int | exact ev_none | exact ev_bool | exact evl_nil | exact evo_none
  | (apply ev_name; dictfold_has; exact rfl)
  | (apply ev_glob; dictfold_has)
  | (apply ev_str; decide +kernel)
  | ((first | apply evs_bin | apply evs_call | apply evs_cmp | apply evt_cmp | apply evt_not | apply ev_neg | apply ev_tuple | apply ev_list | apply evl_cons | apply evo_some | apply evt_val) <;>
      first | exact rfl | exact fun _ => rfl | exact fun _ _ => rfl | dictfold_shaped | dictfold_shaped2 | exact Nat.le_of_ble_eq_true rfl))
section
section
variable {T : TopCx} {S : FnS} {C : Cx T S} {B : Base} {s : Shared} {Z : Addr → Prop} {σ σ' : Sig} {μ μ₁ μ₂ μ₃ μ' : Sto} {pos p1 p2 : Pos} {e f g t : Expr} {a b c : AV} {rest : List Stmt} {K : AF → Sig → Sto → Prop} {as : List AV}
theorem ca_len {l : List AV} {n : Nat} (h : LstAt μ a l) (hn : l.length = n) (hl : n < 2 ^ 62) : CallA C (.builtin "len") [a] σ μ (.int n) μ := hn ▸ ca_len_list h (hn ▸ hl)
theorem ca_lens {x : List Nat} {n : Nat} (hn : x.length = n) (hl : n < 2 ^ 62) : CallA C (.builtin "len") [.str x] σ μ (.int n) μ := hn ▸ ca_len_str (hn ▸ hl)
theorem ex_asgT {es : List Expr} {k : Nat} {tp : Pos} (he : EvS C e σ μ a μ₁) (h : Asg C (.Tuple es k tp) a σ μ₁ fun σ μ => Ex C rest σ μ K)
    (hs : ∀ env, swapsWithSole [.Tuple es k tp] e pos.line env = pure false := by intro _; rfl) (hw : swappedStores [.Tuple es k tp] e C.env = pure none) : Ex C (.Assign [.Tuple es k tp] e pos :: rest) σ μ K := by
  refine ex_cons ⟨fun ok B s Z R => ?_⟩
  refine Assign_Tuple (wpAny_mono (he.run ok B s Z R) ?_ fun _ _ x => x) (hs _) hw
  rintro v s₁ ⟨Z₁, R₁, L₁, V₁⟩
  refine wpAny_mono (h.run ok B s₁ Z₁ v R₁ V₁) ?_ fun _ _ x => x
  rintro _ s₂ ⟨Z₂, σ₂, μ₂, R₂, L₂, h₂⟩
  exact ⟨Z₂, σ₂, μ₂, .next, R₂, L₁.trans L₂, .next, h₂⟩
theorem asg_name_item {x : Str} {k : Nat} {tp : Pos} {K : Sig → Sto → Prop} (U : Up x AV a σ σ') (h : Asg C (.Subscript e f p2) b σ' μ K) (hro : S.ro = false := by rfl) : Asg C (.Tuple [.Name x p1, .Subscript e f p2] k tp) (.tup [a, b]) σ μ K := by
  refine ⟨fun ok B s Z v R V => ?_⟩
  obtain ⟨ax, _, nn, rfl, z, e, r⟩ := V.itup
  obtain ⟨w₁, w₂, rfl, V₁, V₂⟩ := r.i2
  ·
        refine assign_Tuple_tuple (show C.A.handled = none from ok.hh) ⟨_, e, rfl, _, rfl⟩ rfl rfl fun h' he => ?_
        have gr : ∀ a o, s.heap.get? a = some o → h'.get? a = some o := fun a o e => he a o (Nat.ne_of_lt (Heap.lt_size e)) e
        have R₁ : Rp C B { s with heap := h' } Z σ μ := R.grow (s' := { s with heap := h' }) gr rfl R.gens R.tk
        have L₁ : Le s.heap Z h' Z := Le.of_keep gr
        refine assignInOrder_cons (wpAny_mono ((asg_name (pos := p1) (K := fun σ₂ μ₂ => σ₂ = σ' ∧ μ₂ = μ) U ⟨rfl, rfl⟩ hro).run ok B _ Z _ R₁ (V₁.mono L₁)) ?_ fun _ _ x => x)
        rintro _ s₂ ⟨Z₂, σ₂, μ₂, R₂, L₂, rfl, rfl⟩
        refine assignInOrder_cons (wpAny_mono (h.run ok B _ Z₂ _ R₂ (V₂.mono (L₁.trans L₂))) ?_ fun _ _ x => x)
        rintro _ s₃ ⟨Z₃, σ₃, μ₃, R₃, L₃, h₃⟩
        exact assignInOrder_nil ⟨Z₃, σ₃, μ₃, R₃, L₁.trans (L₂.trans L₃), h₃⟩
theorem sw_item {x : Str} {env : Env} {v1 v2 : Expr} {k k' : Nat} {tp tp' : Pos} : swappedStores [.Tuple [.Name x p1, .Subscript e f p2] k tp] (.Tuple [v1, v2] k' tp') env = pure none := by
  unfold swappedStores
  dsimp only
  split
  · rfl
  · split
    · rfl
    · refine (if_pos ?_).trans rfl
      simp only [List.filterMap_cons, List.filterMap_nil]
      split <;> simp
theorem ex_asgS {x y : Str} {k : Nat} {p1 p2 tp : Pos} {σ₁ σ₂ : Sig} (he : EvS C e σ μ (.tup [a, b]) μ₁) (U1 : Up y AV b σ σ₁) (U2 : Up x AV a σ₁ σ₂) (h : Ex C rest σ₂ μ₁ K)
    (hs : ∀ env, swapsWithSole [.Tuple [.Name x p1, .Name y p2] k tp] e pos.line env = pure false := by intro _; rfl) (hw : ∀ env : Env, env.blockKind = .function → env.kindOf x = some .local → env.kindOf y = some .local → swappedStores [.Tuple [.Name x p1, .Name y p2] k tp] e env = pure (some [x, y]))
    (hx : (x, false) ∈ S.names) (hy : (y, false) ∈ S.names) (hro : S.ro = false := by rfl) :
    Ex C (.Assign [.Tuple [.Name x p1, .Name y p2] k tp] e pos :: rest) σ μ K := by
  refine ex_cons ⟨fun ok B s Z R => ?_⟩
  refine Assign_Tuple_swapped (names := [x, y]) (wpAny_mono (he.run ok B s Z R) ?_ fun _ _ x => x) (hs _) (hw _ (by unfold Env.blockKind; simp [ok.kind, ScopeKind.isAnnotationScope]) ((ok.names _ hx).1 rfl) ((ok.names _ hy).1 rfl))
  rintro v s₁ ⟨Z₁, R₁, L₁, V₁⟩
  obtain ⟨ax, _, nn, rfl, z, e, r⟩ := V₁.itup
  obtain ⟨w₁, w₂, rfl, U₁, V₂⟩ := r.i2
  ·
        show wpAny _ _ (unpackItems (.ref ax) (List.toArray [w₁, w₂]).size none) _ _ _
        refine unpackItems_tuple (show C.A.handled = none from ok.hh) ⟨_, e, rfl, _, rfl⟩ fun h' he => ?_
        have gr : ∀ a o, s₁.heap.get? a = some o → h'.get? a = some o := fun a o e => he a o (Nat.ne_of_lt (Heap.lt_size e)) e
        have R₂ : Rp C B { s₁ with heap := h' } Z₁ σ μ₁ := R₁.grow (s' := { s₁ with heap := h' }) gr rfl R₁.gens R₁.tk
        have L₂ : Le s₁.heap Z₁ h' Z₁ := Le.of_keep gr
        show wpAny _ _ (assignInOrder [fun v => bindName C.env y v, fun v => bindName C.env x v] [w₂, w₁]) _ _ _
        refine assignInOrder_cons (bindName_ (wpAny_mono (store_name ok hro R₂ U1 (V₂.mono L₂)) ?_ fun _ _ x => x))
        rintro _ s₃ ⟨R₃, L₃⟩
        refine assignInOrder_cons (bindName_ (wpAny_mono (store_name ok hro R₃ U2 (U₁.mono (L₂.trans L₃))) ?_ fun _ _ x => x))
        rintro _ s₄ ⟨R₄, L₄⟩
        exact assignInOrder_nil ⟨Z₁, σ₂, μ₁, .next, R₄, L₁.trans (L₂.trans (L₃.trans L₄)), .next, h⟩
variable {es : List Expr}
theorem ala {x b : Bool} (h : EvB C e σ μ x) (h0 : x = false → b = false) (h1 : x = true → EvAll C .And es σ μ b) : EvAll C .And (e :: es) σ μ b := by
  cases x with
  | false => rw [h0 rfl]; exact evall_and (b' := true) h fun q => nomatch q
  | true => have := evall_and h h1; simpa using this
theorem alo {x b : Bool} (h : EvB C e σ μ x) (h0 : x = true → b = true) (h1 : x = false → EvAll C .Or es σ μ b) : EvAll C .Or (e :: es) σ μ b := by
  cases x with
  | true => rw [h0 rfl]; exact evall_or (b' := true) h fun q => nomatch q
  | false => have := evall_or h h1; simpa using this
theorem ale {b : Bool} (h : b = true) : EvAll C .And [] σ μ b := h ▸ evall_nil
theorem alf {b : Bool} (h : b = false) : EvAll C .Or [] σ μ b := h ▸ evall_nil
end
end
section
theorem sub_ri_reversed : isSubtype (.type "range_iterator") (.type "reversed") = pure false := by rw [isSubtype_type]; kernel_rfl
theorem size01 {n : Int} (h : 0 ≤ n) : Builtin.Range.rangeSize 0 n 1 = n := by rw [rangeSize_one]; split <;> lia
theorem range_rev_meets (r : Addr) (a b c : Int) (t u v : Tok) (hc0 : ¬(!(Builtin.Range.rangeFitsLong a && Builtin.Range.rangeFitsLong b && Builtin.Range.rangeFitsLong c && Builtin.Range.rangeFitsLong (-c) && Builtin.Range.rangeFitsLong (a - c) && Builtin.Range.rangeFitsLong (Builtin.Range.rangeSize a b c))) = true) :
    Meets (Builtin.«range.__reversed__» ⟨[.ref r], []⟩) (fun _ R s => s.heap.get? r = some { cls := .type "range", dict := none, data := .fields #[.int a t, .int b u, .int c v], slots := #[] } ∧ R (.ok (.ret (Value.ref s.heap.objs.size))) { s with heap := s.heap.push { cls := Value.type (if (Builtin.Range.rangeFitsLong a && Builtin.Range.rangeFitsLong b && Builtin.Range.rangeFitsLong c && Builtin.Range.rangeFitsLong (-c) && Builtin.Range.rangeFitsLong (a - c) && Builtin.Range.rangeFitsLong (Builtin.Range.rangeSize a b c)) = true then "range_iterator" else "longrange_iterator"), data := Data.fields #[rawInt (a + (Builtin.Range.rangeSize a b c - 1) * c), rawInt (Builtin.Range.rangeSize a b c), rawInt (-c)] }, toks := s.toks }) :=
  .of_wp fun prog w A R s h => by obtain ⟨hp, g, d, tk, os⟩ := s; obtain ⟨hl, h⟩ := h; wp_walk; exact ⟨_, rfl, h⟩
theorem revSmall_ok {n : Int} (h : 0 ≤ n) (h2 : n < 2 ^ 62) : (Builtin.Range.rangeFitsLong 0 && Builtin.Range.rangeFitsLong n && Builtin.Range.rangeFitsLong 1 && Builtin.Range.rangeFitsLong (-1) && Builtin.Range.rangeFitsLong (0 - 1) && Builtin.Range.rangeFitsLong (Builtin.Range.rangeSize 0 n 1)) = true := by
  rw [size01 h]
  unfold Builtin.Range.rangeFitsLong
  have : (decide (-(2 ^ 63) ≤ n) && decide (n < 2 ^ 63)) = true := by simp; lia
  simp; lia
section
variable {prog : Program} {w : World} {A : Around} {E : Value → Shared → Prop} {s : Shared}
noncomputable abbrev revR (n : Int) : Obj := { cls := .type "range_iterator", data := .fields #[rawInt (n - 1), rawInt n, rawInt (-1)] }
theorem call_range_rev {r : Addr} {n : Int} {t u v : Tok} {Q : Value → Shared → Prop} (hr : IsRange s.heap r 0 n 1 t u v) (hn : 0 ≤ n) (hn2 : n < 2 ^ 62)
    (h : Q (.ref s.heap.objs.size) { s with heap := s.heap.push (revR n) }) : wpAny (model prog w) A (call (.builtin "range.__reversed__") [.ref r]) Q E s := by
  have hs := revSmall_ok hn hn2
  have e1 : (0 + (Builtin.Range.rangeSize 0 n 1 - 1) * 1) = n - 1 := by rw [size01 hn]; lia
  refine call_meets F.slot_range_reversed ⟨_, hr, rfl⟩ F.entry_range_reversed (F.args_range_reversed_1 _) (range_rev_meets r 0 n 1 t u v (by rw [hs]; decide)) ⟨hr, ?_⟩
  rw [if_pos hs, e1, size01 hn]; exact h
theorem code_rev_range {r : Addr} {n : Int} {t u v : Tok} {Q₁ : Value → Shared → Prop} (hr : IsRange s.heap r 0 n 1 t u v) (hn : 0 ≤ n) (hn2 : n < 2 ^ 62)
    (h : Q₁ (.ref s.heap.objs.size) { s with heap := s.heap.push (revR n) }) :
    codeAny (model prog w) A (.call (.builtin "reversed.__new__") ⟨[.type "reversed", .ref r], []⟩) (wants Q₁ E) s := by
  refine codeAny_of_tree ?_
  show wpAny _ A.in1 (do checkBuiltinCall "reversed.__new__" ⟨[.type "reversed", .ref r], []⟩; again (.builtin "reversed.__new__" ⟨[.type "reversed", .ref r], []⟩)) _ _ s
  refine wpAny_bind (wpAny_of_eq (F.newCall_reversed_1 _) (wpAny_pure ⟨plainId_quiet F.plain_reversed_new _, codeAny_builtin F.entry_reversed_new ?_⟩))
  rw [Around.under_plainId F.plain_reversed_new _]
  unfold Builtin.«reversed.__new__»
  refine wpAny_bind (wpAny_of_eq (newClass_reversed _) ?_)
  try dsimp only
  refine wpAny_bind (wpAny_of_eq (a := ()) (by first | rfl | kernel_rfl) ?_)
  refine wpAny_bind (wpAny_of_eq (a := ()) (by first | rfl | kernel_rfl) ?_)
  try dsimp only
  refine wpAny_bind (wpAny_specialOf (T := "range") ⟨_, hr, rfl⟩ F.slot_range_reversed.lookup ?_)
  try dsimp only
  refine wpAny_bind (wpAny_of_eq (F.slot_range_reversed.bind _) ?_)
  try dsimp only
  first
  | rw [if_neg (show ¬ ((Value.builtin "range.__reversed__" == Value.none) = true) from Bool.false_ne_true)]
  | (show wpAny _ _ (if (Value.builtin "range.__reversed__" == Value.none) = true then _ else _) _ _ _; rw [if_neg (show ¬ ((Value.builtin "range.__reversed__" == Value.none) = true) from Bool.false_ne_true)])
  refine wpAny_bind (wpAny_rule ?_)
  refine wpAny_bind (m := runValue (.call (.builtin "range.__reversed__") ⟨[.ref r], []⟩)) (show wpAny _ _ (call (.builtin "range.__reversed__") [.ref r]) _ _ _ from call_range_rev hr hn hn2 ?_)
  first
  | exact wpAny_pure h
  | exact wpAny_bind (wpAny_pure (wpAny_pure h))
theorem call_rev_range {r : Addr} {n : Int} {t u v : Tok} {Q : Value → Shared → Prop} (hr : IsRange s.heap r 0 n 1 t u v) (hn : 0 ≤ n) (hn2 : n < 2 ^ 62)
    (h : Q (.ref s.heap.objs.size) { s with heap := s.heap.push (revR n) }) : wpAny (model prog w) A (call (.type "reversed") [.ref r]) Q E s := by
  refine callType_other (U := "range_iterator") (Q₁ := fun obj s₁ => obj = .ref s.heap.objs.size ∧ s₁ = { s with heap := s.heap.push (revR n) }) (by decide +kernel) F.create_reversed ⟨_, _, F.mro_reversed⟩ F.made_reversed sub_ri_reversed (F.typeCall_reversed_1 _) (code_rev_range hr hn hn2 ⟨rfl, rfl⟩) ?_
  rintro obj s₁ ⟨rfl, rfl⟩
  exact ⟨⟨_, Heap.get?_push_size _ rfl, rfl⟩, h⟩
end
section
variable {T : TopCx} {S : FnS} {C : Cx T S} {σ : Sig} {μ μ' μ₁ μ₂ : Sto} {e : Expr} {pos xp : Pos} {x : Str}
theorem evi_rev {n : Nat} (hf : EvD C (.Name x xp) σ μ (.val (.type "reversed"))) (he : EvS C e σ μ (.rng 0 n 1) μ') (hn : n < 2 ^ 62)
    (hp : ∀ pos env, (backTo pos (starEach [e] env)).any (·.1) = false := by intro _ _; rfl) (hs : ∀ env, starEach [e] env = [(false, eval e env)] := by intro _; rfl) :
    EvI C (.Call (.Name x xp) [e] [] pos) σ μ false (rngs ((n : Int) - 1) (-1) n) μ' := by
  refine ⟨fun ok B s Z R => ?_⟩
  refine wpAny_Call_Name_kw (wpAny_mono (hf.run ok B s Z R) ?_ fun _ _ x => x)
  rintro v s₁ ⟨Z₁, R₁, L₁, V₁⟩
  obtain rfl := V₁.ival
  show wpAny _ _ (callWith pos (.type "reversed") [] (backTo pos (starEach [e] C.env)) []) _ _ _
  refine callWith_any (hp _ _) ?_
  refine wpAny_mono ((evl_cons he evl_nil (fun env => by rw [hs]; rfl)).run ok B s₁ Z₁ pos R₁) ?_ fun _ _ x => x
  rintro vs s₂ ⟨Z₂, R₂, L₂, V₂⟩
  refine ⟨fun Q' h => wpAny_pure (h _), ?_⟩
  obtain ⟨_, rfl, V⟩ := V₂.i1
  obtain ⟨_, _, _, _, rfl, z, er⟩ := V.irng
  ·
      refine call_rev_range er (by room) (by room) ?_
      refine wpAny_pyIter_rangeiter (Heap.get?_push_size _ rfl) ?_
      refine ⟨_, Z₂, rfl, R₂.push _, (L₁.trans L₂).trans (le_push _ _ _), R₂.alone _, ?_⟩
      refine ⟨_, _, _, _, 0, Walks.range (show C.A.handled = none from ok.hh) s₂.heap.objs.size ((n : Int) - 1) (-1) n, ?_, by simp [rngs], fun b hb => .inl (List.mem_singleton.mp hb), fun j v hj p => ?_, fun q => (nomatch q), fun i h st => ⟨_, st, fun _ _ q => nomatch q⟩⟩
      · show IsRangeIter _ _ _ _ _
        simpa using Heap.get?_push_size _ rfl
      · obtain ⟨t, rfl⟩ := p
        simp [rngs] at hj
        refine ⟨.int ((n : Int) - 1 + (j : Int) * (-1)), by simp [rngs, hj], ?_⟩
        rw [Nat.zero_add]
        exact .int _ _
end
end
section
noncomputable def KS (h h' : Heap) : Prop := ∀ b o, h.get? b = some o → (∀ vs, o.data ≠ .fields vs) → ∃ sl, h'.get? b = some { o with slots := sl }
theorem KS.trans {a b c : Heap} (x : KS a b) (y : KS b c) : KS a c := fun n o e d => let ⟨sl, e₁⟩ := x n o e d; let ⟨sl', e₂⟩ := y n _ e₁ d; ⟨sl', e₂⟩
theorem KS.of {a b : Heap} (k : ∀ n o, a.get? n = some o → b.get? n = some o) : KS a b := fun n o e _ => ⟨o.slots, k n o e⟩
section
variable {M : Model} {A : Around} {E : Value → Shared → Prop} {s : Shared}
theorem noted_next {base : Heap} {env : Env} {outer : List Env} {L e : Addr} {cls : Value} {Q : Unit → Shared → Prop}
    (hfr : A.frames = some (env :: outer)) (hl : s.heap.FunFrames base (env :: outer)) (hf : env.frame = some L) (ht : s.heap.Traced base e cls) (hkb : base.StaysIn s.heap) (hen : base.get? e = none)
    (h : ∀ h', Heap.Left base (env :: outer) e cls s.heap h' → Q () { s with heap := h' }) : wpAny M A (noteFrame (.ref e) env) (fun _ s' => wpAny M A (setFlight (.ref e) none) Q E s') E s := by
  obtain ⟨oe, vs, t, oT, ts, he, hcls, hd, h1, hnT, hTe, hT, hdT, h3⟩ := ht
  subst hcls
  unfold noteFrame
  simp only [hf]
  refine wpAny_bind (wpAny_field he hd h1 ?_)
  rw [if_pos (show (Value.ref t != Value.none) = true from by simp)]
  refine wpAny_bind (wpAny_field hT hdT h3 ?_)
  rw [if_neg (show ¬ ((Value.none == rawInt L) = true) from by simp [rawInt])]
  refine wpAny_bind (wpAny_setField hT hdT (Array.getElem?_eq_some_iff.mp h3).1 ?_)
  have other : ∀ b, b ≠ t → (s.heap.update t (Obj.mapFields (·.setIfInBounds 3 Value.none))).get? b = s.heap.get? b := fun b hb => Heap.get?_update_other _ _ (Ne.symm hb)
  have nr : ∀ b o, s.heap.get? b = some o → (∀ vs, o.data ≠ .fields vs) → b ≠ t := fun b o hb hnf q => by
    rw [q, hT] at hb; injection hb with hb; subst hb; exact hnf ts hdT
  refine wpAny_newEntry hfr (hl.of_keeps fun b o hb hnf => ⟨o, (other b (nr b o hb hnf)).trans hb, rfl⟩) hf ((other e (Ne.symm hTe)).trans he)
    (fun b o hbo => (other b fun q => by rw [q, hnT] at hbo; cases hbo).trans (hkb b o hbo)) hen hd (Array.getElem?_eq_some_iff.mp h1).1
    fun h' ⟨x1, x2, x3, x4⟩ => h h' ⟨x1, x2, x3, fun b o hb hnf => x4 b o ((other b (nr b o hb hnf)).trans hb) hnf⟩
end
section
variable {T : TopCx} {S : FnS} {μ μ' : Sto} {c : AV} {as : List AV} {σ₀ : Sig}
structure Thrown (T : TopCx) (base h₀ : Heap) (l : List Env) (ea : Addr) (s : Shared) : Prop where
  os : s.os = T.os
  gens : AllBare s.gens
  stays : base.StaysIn s.heap
  new : base.get? ea = none
  frames : s.heap.FunFrames base l
  traced : s.heap.Traced base ea (.type "IndexError")
  ks : KS h₀ s.heap
theorem call_raises {f : Addr} {i : Nat} {params : List Str} {d : Nat} (hf : (f, i, params) ∈ FL) (hok : fnOk (fscope i) S params = true)
    (hk : σ₀.map (·.1) = S.names.map (·.1)) (hσ : ∀ p ∈ σ₀, p.2 = .un ∨ p ∈ params.zip as) (hl : as.length = params.length)
    {A : Around} {B : Base} {s : Shared} {Z : Addr → Prop} {vs : List Value} {base : Heap} {l : List Env}
    (tok : TopOk T) (hh : A.handled = none) (hdep : A.depth + (d + 1) < recursionLimit) (hun : A.units + 20 * (d + 1) + 100 < cLine) (hfr : FrB0 T A B) (H : Hp T B s Z μ) (V : VRs s.heap Z vs as)
    (hA : A.frames = some l) (hst : base.StaysIn s.heap) (hF : s.heap.FunFrames base l)
    (h : ∀ (C : Cx T S) (s₁ : Shared), C.Ok → Rp C B s₁ Z σ₀ μ →
      wpAny (Md T) C.A (execs (fbody i) C.env) (fun _ _ => False) (fun e s₂ => ∃ ea h' tk, e = .ref ea ∧ s₂ = { s₁ with heap := h', toks := tk } ∧ Heap.NewExc s₁.heap h' ea "IndexError") s₁) :
    wpAny (Md T) A (call (.ref f) vs []) (fun _ _ => False) (fun e s' => ∃ ea, e = .ref ea ∧ Thrown T base s.heap l ea s') s := by
  refine fn_enter hf hok hk hσ hl tok hh hdep hun hfr H V fun C s₁ hC hI ok hCA hCF R hkeep hL => ?_
  refine wpAny_mono (h C s₁ ok R) (fun _ _ x => x.elim) ?_
  rintro e s₂ ⟨ea, h', tk, rfl, rfl, hx⟩
  obtain ⟨ob, t, he, hcls, hd⟩ := hx.there
  have st₁ : base.StaysIn s₁.heap := fun b o e => hkeep b o (hst b o e)
  have st₂ : base.StaysIn h' := fun b o e => hx.keeps b o (st₁ b o e)
  have hen : base.get? ea = none := by
    cases q : base.get? ea with
    | none => rfl
    | some o => have := st₁ ea o q; rw [hx.new] at this; cases this
  obtain ⟨m, hn, _⟩ := R.ns
  have hLn : base.get? C.env.locals = none := by
    cases q : base.get? C.env.locals with
    | none => rfl
    | some o => have := hst _ o q; rw [hL] at this; cases this
  have hF₁ : s₁.heap.FunFrames base (C.env :: l) := Heap.FunFrames.cons (by rw [ok.kind]; decide) hCF hn hLn (hF.of_keeps fun b o e _ => ⟨o, hkeep b o e, rfl⟩)
  have hF₂ : h'.FunFrames base (C.env :: l) := hF₁.of_keeps fun b o e _ => ⟨o, hx.keeps b o e, rfl⟩
  refine wpAny_leaving_first (outer := l) (L := C.env.locals) (by rw [hCA]; show A.frames.map _ = _; rw [hA]; rfl) hF₂ hCF he st₂ hen hd rfl fun h'' hL' => ?_
  obtain ⟨k1, ⟨_, _, k2⟩, k3, k4⟩ := hL'
  exact ⟨ea, rfl, R.os, R.gens, k1, hen, k2, by rw [← hcls]; exact k3, (KS.of fun b o e => hx.keeps b o (hkeep b o e)).trans k4⟩
end
end
section
section
variable {T : TopCx} {S S' : FnS} {C : Cx T S} {B : Base} {s : Shared} {Z : Addr → Prop} {σ σ' σ₀ : Sig} {μ μ₁ μ₂ μ₃ μ' : Sto} {pos p1 p2 : Pos} {e f g t : Expr} {a b c : AV} {rest : List Stmt} {K : AF → Sig → Sto → Prop} {as : List AV}
theorem op_addl {l k : List AV} (h1 : LstAt μ a l) (h2 : LstAt μ b k) (hl : l.length + k.length ≤ sizeLine) : Op2 C .Add a b σ μ (.lst (l ++ k)) := ⟨fun ok B s Z v w R V W => by
  obtain ⟨x, vs, n, rfl, e, r⟩ := h1.at R.toHp V
  obtain ⟨y, ws, m, rfl, e2, r2⟩ := h2.at R.toHp W
  have hlen := r.length
  have hlen2 := r2.length
  refine PySem.P.add_list (items := vs.toArray) (items2 := ws.toArray) (n := n) (n2 := m) e e2 ?_ (by simp; lia)
  have q := R.pushZ ok.top (listOf (vs ++ ws).toArray 0)
  have hh : vs.toArray ++ ws.toArray = (vs ++ ws).toArray := by simp
  rw [hh]
  exact ⟨_, q, le_pushZ _ _ _ _, .lst (.inr rfl) (Heap.get?_push_size _ rfl) ((r.append r2).mono (le_pushZ _ _ _ _))⟩⟩
theorem getItem_tup2 {prog : Program} {w : World} {A : Around} {E : Value → Shared → Prop} {s : Shared} {t sl : Addr} {x y z : Value} {u : Tok} {Q : Value → Shared → Prop} (ht : IsTup s.heap t #[x, y, z]) (hs : s.heap.IsSliceOf sl .none (.int 2 u) .none)
    (h : Q (.ref s.heap.objs.size) { s with heap := s.heap.push { cls := .type "tuple", data := .seq #[x, y] } }) : wpAny (model prog w) A (getItem (.ref t) (.ref sl)) Q E s := by
  obtain ⟨os, hos, hcs, hds⟩ := id hs
  have hTs : s.TypeIs (.ref sl) "slice" := ⟨os, hos, hcs⟩
  unfold getItem
  try with_reducible refine wpAny_holding ?_
  first | refine wpAny_bind (wpAny_pure ?_) | skip
  refine wpAny_bind (wpAny_sequenceKey ht.typeIs (by decide) ?_)
  refine wpAny_bind (wpAny_callSpecial?_slot (name := Str.ofString "__getitem__") ht.typeIs slot_tuple_getitem
    (wpAny_call_entry slot_tuple_getitem ht.typeIs entry_tuple_getitem ?_ (args_tuple_getitem _ _)))
  show wpAny _ _ (Builtin.Tuple.tupleItemsOf (.ref t) >>= _) _ _ s
  refine wpAny_bind (tupleItemsOf_ ht ?_)
  refine wpAny_bind (wpAny_typeOf hTs ?_)
  rw [if_pos (by decide)]
  refine wpAny_bind (m := Builtin.Slice.sliceApplied (.ref sl) _) ?_
  unfold Builtin.Slice.sliceApplied Builtin.Slice.sliceFields
  refine wpAny_bind (wpAny_bind (wpAny_field hos hds (x := .none) rfl (wpAny_bind (wpAny_field hos hds (x := .int 2 u) rfl (wpAny_bind (wpAny_field hos hds (x := .none) rfl (wpAny_pure ?_)))))))
  refine wpAny_bind (slicePart_none ?_)
  show wpAny _ _ (if ((1 : Int) == 0) = true then _ else _) _ _ s
  rw [if_neg (by decide)]
  refine wpAny_bind (slicePart_none (wpAny_bind (slicePart_int (wpAny_bind (wpAny_pure ?_)))))
  refine wpAny_pure ?_
  dsimp only
  show wpAny _ _ (if ((0 : Int) == 0 && (1 : Int) == 1 && (2 : Nat) == 3) = true then _ else _) _ _ s
  rw [if_neg (by decide)]
  first
    | exact wpAny_bind (m := Builtin.Tuple.tupleExact _) (wpAny_newObj_type (wpAny_pure ⟨_, rfl, wpAny_pure h⟩) (by show 2 ≤ sizeLine; decide))
    | exact wpAny_bind (m := Builtin.Tuple.tupleExact _) (wpAny_newObj_type (wpAny_bind (wpAny_pure (wpAny_pure ⟨_, rfl, wpAny_pure h⟩))) (by show 2 ≤ sizeLine; decide))
    | exact wpAny_bind (wpAny_bind (m := Builtin.Tuple.tupleExact _) (wpAny_newObj_type (wpAny_pure (wpAny_pure ⟨_, rfl, wpAny_pure h⟩)) (by show 2 ≤ sizeLine; decide)))
    | exact wpAny_bind (wpAny_bind (m := Builtin.Tuple.tupleExact _) (wpAny_newObj_type (wpAny_pure ⟨_, rfl, wpAny_pure h⟩) (by show 2 ≤ sizeLine; decide)))
theorem slc_tup2 : Slc C (.tup [a, b, c]) none (some 2) σ μ (.tup [a, b]) := ⟨fun ok B s Z v vl vu value slice R V pl pu hs => by
  obtain ⟨ax, _, nn, rfl, z, e, r⟩ := V.itup
  obtain ⟨w1, w2, w3, rfl, V1, V2, V3⟩ := r.i3
  ·       cases pl; cases pu
          rename_i uu
          have hL : IsTup (s.heap.push { cls := .type "slice", data := .fields #[.none, .int 2 uu, .none] }) ax #[w1, w2, w3] := ⟨_, Heap.get?_push_of_some _ e, rfl, nn, rfl⟩
          refine tail_any hL.typeIs slot_tuple_getitem.lookup (getItem_tup2 hL (Heap.IsSliceOf.new ..) ?_) (hs _ _)
          have R₁ := (R.push { cls := .type "slice", data := .fields #[.none, .int 2 uu, .none] }).pushZ ok.top (tupOf [w1, w2].toArray 0)
          exact ⟨_, R₁, (le_push _ _ _).trans (le_pushZ _ _ _ _), .tup (.inr rfl) (Heap.get?_push_size _ rfl) (.cons (V1.mono ((le_push _ _ _).trans (le_pushZ _ _ _ _))) (.one (V2.mono ((le_push _ _ _).trans (le_pushZ _ _ _ _)))))⟩⟩
theorem Asg.mono {K K' : Sig → Sto → Prop} (h : Asg C t a σ μ K) (k : ∀ σ μ, K σ μ → K' σ μ) : Asg C t a σ μ K' := ⟨fun ok B s Z v R V =>
  wpAny_mono (h.run ok B s Z v R V) (fun _ _ ⟨Z', σ', μ', R', L', q⟩ => ⟨Z', σ', μ', R', L', k _ _ q⟩) fun _ _ x => x⟩
theorem crun_map {α : Type} {tgt elt : Expr} {ifs : List Expr} (gv : α → AV) (p : α → Bool) (fv : α → AV) : ∀ (xs : List α),
    (∀ x ∈ xs, Asg C tgt (gv x) σ₀ μ fun σ₁ μ₁ => μ₁ = μ ∧ Wk σ₁ σ₀ ∧ EvTests C ifs σ₁ μ (p x) ∧ (p x = true → EvD C elt σ₁ μ (fv x))) →
    CRun C tgt ifs elt σ₀ (xs.map gv) μ ((xs.filter p).map fv) μ
  | [], _ => ⟨rfl, rfl⟩
  | x :: xs, h => by
    refine (h x (.head _)).mono ?_
    rintro σ₁ μ₁ ⟨hμ, wk, ht, he⟩
    have hμ' := hμ.symm
    subst hμ'
    have ih := crun_map gv p fv xs fun y hy => h y (.tail _ hy)
    refine ⟨wk, p x, ht, fun q => ?_, fun q => ?_⟩
    · rw [List.filter_cons_of_neg (by rw [q]; decide)]; exact ih
    · rw [List.filter_cons_of_pos q]
      exact ⟨_, _, _, he q, rfl, ih⟩
theorem ex_try0 {body : List Stmt} {h₀ : ExceptHandler} {hs : List ExceptHandler} (h : Ex C body σ μ fun f σ μ => match f with | .next => Ex C rest σ μ K | f => K f σ μ) : Ex C (.Try body (h₀ :: hs) [] [] pos :: rest) σ μ K := by
  refine ex_cons ⟨fun ok B s Z R => ?_⟩
  refine wpAny_Try_except (wpAny_mono (h.run ok B s Z R) ?_ fun _ _ x => x.elim)
  rintro fl s₁ ⟨Z₁, σ₁, μ₁, f, R₁, L₁, F₁, k⟩
  cases F₁ with
  | next => exact wpAny_execs_nil ⟨Z₁, σ₁, μ₁, .next, R₁, L₁, .next, k⟩
  | brk => exact ⟨Z₁, σ₁, μ₁, .brk, R₁, L₁, .brk, k⟩
  | cont => exact ⟨Z₁, σ₁, μ₁, .cont, R₁, L₁, .cont, k⟩
  | ret V => exact ⟨Z₁, σ₁, μ₁, .ret _, R₁, L₁, .ret V, k⟩
theorem cha {x b : Bool} {p : Pos} {e' : Expr} {es : List Expr} (h : EvD C e σ μ (.bool x)) (h0 : x = false → b = false) (h1 : x = true → EvChain C p .And (e' :: es) σ μ b) : EvChain C p .And (e :: e' :: es) σ μ b := by
  cases x with
  | false => rw [h0 rfl]; exact evch_and (b' := true) h fun q => nomatch q
  | true => have := evch_and h h1; simpa using this
theorem cho {x b : Bool} {p : Pos} {e' : Expr} {es : List Expr} (h : EvD C e σ μ (.bool x)) (h0 : x = true → b = true) (h1 : x = false → EvChain C p .Or (e' :: es) σ μ b) : EvChain C p .Or (e :: e' :: es) σ μ b := by
  cases x with
  | true => rw [h0 rfl]; exact evch_or (b' := true) h fun q => nomatch q
  | false => have := evch_or h h1; simpa using this
end
end
section
section
variable {T : TopCx} {S S' : FnS} {C : Cx T S} {B : Base} {s : Shared} {Z : Addr → Prop} {σ σ' σ₀ : Sig} {μ μ₁ μ₂ μ₃ μ' : Sto} {pos p1 p2 : Pos} {e f g t : Expr} {a b c : AV} {rest : List Stmt} {K : AF → Sig → Sto → Prop} {as : List AV}
noncomputable def joinF (s : List Nat) (ys : List (List Nat)) : List Nat := (ys.drop 1).foldl (fun acc p => acc ++ s ++ p) (ys.headD [])
theorem glued_stv (s : List Nat) (ys : List (List Nat)) : Txt.join (stv s) (ys.map stv) = stv (joinF s ys) := by
  unfold Txt.join Builtin.Str.glued joinF
  have h : ∀ (l : List (List Nat)) (acc : List Nat), (l.map stv).foldl (fun (acc : Array Nat) (p : Str) => acc ++ (stv s).cps ++ p.cps) acc.toArray = (l.foldl (fun acc p => acc ++ s ++ p) acc).toArray := by
    intro l
    induction l with
    | nil => intro acc; rfl
    | cons x l ih =>
      intro acc
      rw [List.map_cons, List.foldl_cons, List.foldl_cons, ← ih]
      congr 1
      simp
  cases ys with
  | nil => rfl
  | cons x l =>
    have := h l x
    simp only [List.map_cons, List.drop_succ_cons, List.drop_zero, List.headD_cons]
    exact congrArg (fun z : Array Nat => (⟨z⟩ : Str)) this
theorem joinF_nil : ∀ ys : List (List Nat), joinF [] ys = ys.flatten := by
  have h : ∀ (l : List (List Nat)) (acc : List Nat), l.foldl (fun acc p => acc ++ [] ++ p) acc = acc ++ l.flatten := by
    intro l
    induction l with
    | nil => intro acc; simp
    | cons x l ih => intro acc; rw [List.foldl_cons, ih]; simp
  intro ys
  cases ys with
  | nil => rfl
  | cons x l => unfold joinF; simp only [List.drop_succ_cons, List.drop_zero, List.headD_cons]; rw [h]; simp
theorem strs_are {h : Heap} {ys : List (List Nat)} {vs : List Value} (r : VRs h Z vs (ys.map .str)) : StrsAre vs (ys.map stv) := by
  induction ys generalizing vs with
  | nil => obtain rfl := r.inil; exact .nil
  | cons y ys ih =>
    obtain ⟨v, w, rfl, V, q⟩ := r.icons
    obtain ⟨t, rfl⟩ := V.istr
    exact .cons _ t (ih q)
theorem m_join : MethT "str" "join" "str.join" := ⟨F.plainAttrs_str, F.slot_str_join, F.type_str_join⟩
theorem ca_join {sp : List Nat} {ys : List (List Nat)} {r : List Nat} (h : LstAt μ a (ys.map .str)) (e : joinF sp ys = r) (hs : sp.length ≤ 16) (hw : (ys.map (·.length)).sum + ys.length ≤ 1048576) : CallA C (.builtin "str.join") [.str sp, a] σ μ (.str r) μ := ⟨fun ok B s Z vs R V => by
  obtain ⟨_, _, rfl, V1, W⟩ := V.i2
  obtain ⟨_, rfl⟩ := V1.istr
  obtain ⟨x, ws, n, rfl, e', r'⟩ := h.at R.toHp W
  refine wpAny_up (join_listW (ys := ys.map stv) (isList_of e') (strs_are r') (by simpa [Str.length] using hs) ?_ (fun t' k hle => ?_))
  · have : (ys.map stv).map (·.length) = ys.map (·.length) := by simp [Str.length, Function.comp_def]
    rw [this]; simpa using hw
  · rw [glued_stv, e]; exact PostS.tok R _ (.str _ _) (Nat.lt_of_lt_of_le R.tk hle)⟩
theorem op_powN {m n : Nat} (hn : n ≤ 1000000) (hm : m < 2 ^ 60) : Op2 C .Pow (.int (m : Int)) (.int (n : Int)) σ μ (.int ((m ^ n : Nat) : Int)) := by
  have := op_pow (C := C) (σ := σ) (μ := μ) (i := m) (j := n) (by room) (by room) (by room)
  rwa [Int.toNat_natCast, ← Int.natCast_pow] at this
theorem cmp_ltN {m n : Nat} : Cmp C .Lt (.int (m : Int)) (.int (n : Int)) σ μ (decide (m < n)) := by
  have := cmp_lt (C := C) (σ := σ) (μ := μ) (i := m) (j := n)
  have e : decide ((m : Int) < (n : Int)) = decide (m < n) := by simp
  rwa [e] at this
theorem cmp_gtN {m n : Nat} : Cmp C .Gt (.int (m : Int)) (.int (n : Int)) σ μ (decide (n < m)) := by
  have := cmp_gt (C := C) (σ := σ) (μ := μ) (i := m) (j := n)
  have e : decide ((n : Int) < (m : Int)) = decide (n < m) := by simp
  rwa [e] at this
theorem cmp_leN {m n : Nat} : Cmp C .LtE (.int (m : Int)) (.int (n : Int)) σ μ (decide (m ≤ n)) := by
  have := cmp_le (C := C) (σ := σ) (μ := μ) (i := m) (j := n)
  have e : decide ((m : Int) ≤ (n : Int)) = decide (m ≤ n) := by simp
  rwa [e] at this
theorem cmp_geN {m n : Nat} : Cmp C .GtE (.int (m : Int)) (.int (n : Int)) σ μ (decide (n ≤ m)) := by
  have := cmp_ge (C := C) (σ := σ) (μ := μ) (i := m) (j := n)
  have e : decide ((n : Int) ≤ (m : Int)) = decide (n ≤ m) := by simp
  rwa [e] at this
theorem cmp_eqN {m n : Nat} : Cmp C .Eq (.int (m : Int)) (.int (n : Int)) σ μ (decide (m = n)) := by
  have := cmp_eq (C := C) (σ := σ) (μ := μ) (i := m) (j := n)
  have e : ((m : Int) == (n : Int)) = decide (m = n) := by rw [Bool.eq_iff_iff]; simp; lia
  rwa [e] at this
theorem cmp_eqB {m n : Nat} {b : Bool} (h : decide (m = n) = b) : Cmp C .Eq (.int (m : Int)) (.int (n : Int)) σ μ b := h ▸ cmp_eqN
theorem crun_all {α : Type} {tgt elt : Expr} (gv fv : α → AV) (xs : List α) (h : ∀ x ∈ xs, Asg C tgt (gv x) σ₀ μ fun σ₁ μ₁ => μ₁ = μ ∧ Wk σ₁ σ₀ ∧ EvD C elt σ₁ μ (fv x)) :
    CRun C tgt [] elt σ₀ (xs.map gv) μ (xs.map fv) μ := by
  have := crun_map (C := C) (ifs := []) (μ := μ) (σ₀ := σ₀) (tgt := tgt) (elt := elt) gv (fun _ => true) fv xs fun x hx => (h x hx).mono fun σ₁ μ₁ ⟨h1, h2, h3⟩ => ⟨h1, h2, evts_nil, fun _ => h3⟩
  rwa [List.filter_eq_self.mpr (by simp)] at this
theorem sum_ones {α : Type} : ∀ l : List α, (l.map fun _ => 1).sum = l.length
  | [] => rfl
  | _ :: l => by rw [List.map_cons, List.sum_cons, sum_ones l, List.length_cons]; lia
theorem ex_let {x : Str} (he : EvD C e σ μ a) (U : Up x AV a σ σ') (h : Ex C rest σ' μ K) (hs : ∀ env, swapsWith e (some (.Name x p1)) pos.line env = pure false := by intro _; rfl) (hro : S.ro = false := by rfl) :
    Ex C (.Assign [.Name x p1] e pos :: rest) σ μ K := ex_assign he U h hs hro
theorem ex_letC {x : Str} {elt : Expr} {gens : List Comprehension} {scope : Scope} {cp : Pos} (he : EvS C (.ListComp elt gens scope cp) σ μ a μ₁) (U : Up x AV a σ σ') (h : Ex C rest σ' μ₁ K) (hx : (x, true) ∈ S.names) (hro : S.ro = false := by rfl) :
    Ex C (.Assign [.Name x p1] (.ListComp elt gens scope cp) pos :: rest) σ μ K := by
  refine ex_cons ⟨fun ok B s Z R => ?_⟩
  have hs : swapsWith (.ListComp elt gens scope cp) (some (.Name x p1)) pos.line C.env = pure false := by
    show (pure (C.env.blockKind == .function && C.env.kindOf x == some .local && p1.line == cp.line && !(scope.names.any fun (n, k) => n == x && (k == .local || k == .cell))) : Sem Bool) = _
    have hk : C.env.kindOf x = some .cell := ((ok.names _ hx).2 rfl).1
    rw [hk]
    have : ((some NameKind.cell : Option NameKind) == some .local) = false := rfl
    rw [this]; simp
  refine wpAny_Assign_Name (wpAny_mono (he.run ok B s Z R) ?_ fun _ _ x => x) hs
  rintro v s₁ ⟨Z₁, R₁, L₁, V₁⟩
  refine wpAny_mono (store_name ok hro R₁ U V₁) ?_ fun _ _ x => x
  rintro _ s₂ ⟨R₂, L₂⟩
  exact ⟨Z₁, σ', μ₁, .next, R₂, L₁.trans L₂, .next, h⟩
theorem ex_letCN {x : Str} {elt : Expr} {gens : List Comprehension} {scope : Scope} {cp : Pos} {xs : List AV} {σ' : Addr → Sig} (he : EvN C (.ListComp elt gens scope cp) σ μ xs μ₁) (U : ∀ l, Up x AV (.own l) σ (σ' l)) (h : ∀ l, Ex C rest (σ' l) ((l, xs) :: μ₁) K) (hx : (x, true) ∈ S.names) (hro : S.ro = false := by rfl) :
    Ex C (.Assign [.Name x p1] (.ListComp elt gens scope cp) pos :: rest) σ μ K := by
  refine ex_cons ⟨fun ok B s Z R => ?_⟩
  have hs : swapsWith (.ListComp elt gens scope cp) (some (.Name x p1)) pos.line C.env = pure false := by
    show (pure (C.env.blockKind == .function && C.env.kindOf x == some .local && p1.line == cp.line && !(scope.names.any fun (n, k) => n == x && (k == .local || k == .cell))) : Sem Bool) = _
    have hk : C.env.kindOf x = some .cell := ((ok.names _ hx).2 rfl).1
    rw [hk]
    have : ((some NameKind.cell : Option NameKind) == some .local) = false := rfl
    rw [this]; simp
  refine wpAny_Assign_Name (wpAny_mono (he.run ok B s Z R) ?_ fun _ _ x => x) hs
  rintro v s₁ ⟨Z₁, l, rfl, R₁, L₁⟩
  refine wpAny_mono (store_name ok hro R₁ (U l) (.own l)) ?_ fun _ _ x => x
  rintro _ s₂ ⟨R₂, L₂⟩
  exact ⟨Z₁, σ' l, (l, xs) :: μ₁, .next, R₂, L₁.trans L₂, .next, h l⟩
noncomputable abbrev Item := Option (Bool × List Nat)
noncomputable def itemAV : Item → AV
  | none => .none
  | some (t, x) => .tup [.bool t, .str x]
noncomputable def pcs : List (List Nat × Item) :=
  [([42], none), ([42], none), ([42], none), ([42], none), ([63], some (true, [])), ([97], some (false, [97])), ([97], some (false, [97])), ([94], some (false, [94])), ([33], some (false, [33])), ([92], some (false, [92])),
   ([91, 97, 94, 93], some (false, [97, 94])), ([91, 94, 97, 93], some (false, [94, 97])), ([91, 33, 97, 93], some (true, [97])), ([91, 33, 94, 93], some (true, [94])), ([91, 33, 33, 93], some (true, [33])), ([91, 92, 93], some (false, [92])),
   ([91, 33, 45, 97, 93], some (true, [45, 97])), ([91, 92, 45, 97, 93], some (false, [92, 94, 97])), ([91, 97, 45, 33, 93], some (false, [])), ([91, 33, 97, 45, 33, 93], some (true, []))]
theorem item_un (it : Item) : (itemAV it).isUn = false := by rcases it with _ | ⟨_, _⟩ <;> rfl
noncomputable def pieceAV (p : List Nat × Item) : AV := .tup [.str p.1, itemAV p.2]
end
end
section
structure Ru where
  r : Int
  n : Int
  x : AV
noncomputable def Ru.av (a : Ru) : AV := .tup [.int a.r, .int a.n, a.x]
noncomputable def rlt (a b : Ru) : Bool := decide (a.r < b.r ∨ (a.r = b.r ∧ a.n < b.n))
noncomputable def sd (new : Ru) (start : Nat) (h : List Ru) (pos : Nat) : List Ru :=
  if hp : start < pos then
    match h[(pos - 1) / 2]? with
    | some par => if rlt new par then sd new start (h.set pos par) ((pos - 1) / 2) else h.set pos new
    | none => h.set pos new
  else h.set pos new
termination_by pos
decreasing_by lia
theorem nth_nat {α : Type} {l : List α} {i : Nat} {c : α} (h : l[i]? = some c) : nth (i : Int) l = some c := by
  have hlt : i < l.length := (List.getElem?_eq_some_iff.mp h).1
  unfold nth seqIndex?
  have : ¬ ((i : Int) < 0) := by room
  simp only [this, if_false]
  have h2 : ((i : Int) ≥ 0 && (i : Int) < (l.length : Int)) = true := by simp; exact hlt
  rw [if_pos h2]; simpa using h
theorem set_swap_nodup {h : List Ru} {p q : Nat} {new par : Ru} (hq : h[q]? = some par) (hpq : q ≠ p) (hp : p < h.length) (nd : ((h.set p new).map (·.n)).Nodup) : (((h.set p par).set q new).map (·.n)).Nodup := by
  obtain ⟨hql, e⟩ := List.getElem?_eq_some_iff.mp hq
  have hh : (h.set p par).set q new = ((h.set p new).set p par).set q new := by rw [List.set_set]
  have hs : ((h.set p new).set p par).set q new = ((h.set p new).set p ((h.set p new)[q]'(by simpa using hql))).set q ((h.set p new)[p]'(by simpa using hp)) := by
    congr 1
    · congr 1
      rw [List.getElem_set_ne (Ne.symm hpq)]; exact e.symm
    · simp
  rw [hh, hs]
  have := List.set_set_perm (as := h.set p new) (i := p) (j := q) (by simpa using hp) (by simpa using hql)
  exact ((this.map _).nodup_iff).mpr nd
theorem set_ne {h : List Ru} {p q : Nat} {new par : Ru} (hq : h[q]? = some par) (hpq : q ≠ p) (hp : p < h.length) (nd : ((h.set p new).map (·.n)).Nodup) : new.n ≠ par.n := by
  obtain ⟨hql, e⟩ := List.getElem?_eq_some_iff.mp hq
  intro q'
  have h1 : ((h.set p new).map (·.n))[p]'(by simpa using hp) = ((h.set p new).map (·.n))[q]'(by simpa using hql) := by
    simp [List.getElem_set_ne (Ne.symm hpq), e, q']
  exact hpq ((List.getElem_inj nd).mp h1).symm
theorem cmp_ru {T : TopCx} {S : FnS} {C : Cx T S} {σ : Sig} {μ : Sto} {a b : Ru} (h : a.n ≠ b.n) : Cmp C .Lt a.av b.av σ μ (rlt a b) := cmp_ltr (.inr h)
noncomputable abbrev S_siftdown : FnS := { names := [("heap", false), ("startpos", false), ("pos", false), ("newitem", false), ("parentpos", false), ("parent", false)], globs := [] }
variable {T : TopCx} {μ μ' : Sto} {a : Addr}
theorem itm_map {α : Type} {S : FnS} {C : Cx T S} {σ : Sig} {f : α → AV} {g : List α} {i : Nat} {c : α} {b : AV} (h : LstAt μ b (g.map f)) (hc : g[i]? = some c) (hl : g.length < 2 ^ 62) : Itm C b (i : Nat) σ μ (f c) :=
  itm_list h (nth_nat (by rw [List.getElem?_map, hc]; rfl)) (by rw [List.length_map]; exact hl)
theorem ca_lenm {α : Type} {S : FnS} {C : Cx T S} {σ : Sig} {f : α → AV} {g : List α} {b : AV} (h : LstAt μ b (g.map f)) (hl : g.length < 2 ^ 62) : CallA C (.builtin "len") [b] σ μ (.int (g.length : Nat)) μ := ca_len h (List.length_map f) hl
theorem set_map {α : Type} {S : FnS} {C : Cx T S} {σ : Sig} {f : α → AV} {g : List α} {p : Nat} {c : α} (hm : (a, g.map f) ∈ μ) (hp : p < g.length) (hl : g.length < 2 ^ 62) : SetI C (.own a) (p : Nat) (f c) σ μ (upd a ((g.set p c).map f) μ) :=
  set_own hm (by rw [List.map_set]; exact upd_up hm) (Int.natCast_nonneg p) (by rw [List.length_map]; exact Int.ofNat_lt.mpr hp) (by rw [List.length_map]; exact hl)
noncomputable def forB (i j : Nat) : List Stmt := match (fbody i).getD j default with
  | .For _ _ b .. => b
  | .While _ b .. => b
  | _ => []
inductive WSd (a : Addr) (new : Ru) (start : Nat) (h : List Ru) (pos : Nat) (μ : Sto) : Nat → Sig → Sto → Prop
  | mk (g : List Ru) (p : Nat) (x y : AV) (μ₁ : Sto) (e : μ₁ = upd a (g.map Ru.av) μ) (hgl : g.length = h.length) (hpl : p < g.length) (gd : ((g.set p new).map (·.n)).Nodup) (hsd : sd new start g p = sd new start h pos) :
      WSd a new start h pos μ p ([("heap", .own a), ("startpos", .int start), ("pos", .int p), ("newitem", new.av), ("parentpos", x), ("parent", y)] : Sig) μ₁
set_option maxHeartbeats 1000000 in
theorem fn_siftdown {d : Nat} {h : List Ru} {new : Ru} {start pos : Nat} (hn : h[pos]? = some new) (hd : (h.map (·.n)).Nodup) (hl : h.length < 2 ^ 62) (hm : (a, h.map Ru.av) ∈ μ) :
    Fn T (.ref 111) (d + 1) [.own a, .int start, .int pos] μ .none (upd a ((sd new start h pos).map Ru.av) μ) := by
  refine fn_intro (S := S_siftdown) (σ₀ := [("heap", .own a), ("startpos", .int start), ("pos", .int pos), ("newitem", .un), ("parentpos", .un), ("parent", .un)]) (i := 16) (params := ["heap", "startpos", "pos"])
    (by decide) (by decide +kernel) rfl (by simp) rfl fun nd C hC hI => ?_
  refine ex_assign (a := new.av) (evs_item (by dictfold_shaped) (by dictfold_shaped) (itm_map (LstAt.own hm) hn hl)) (by dictfold_puts) ?_
  have hp : pos < h.length := (List.getElem?_eq_some_iff.mp hn).1
  have hs : h.set pos new = h := by
    obtain ⟨_, e⟩ := List.getElem?_eq_some_iff.mp hn
    rw [← e]; simp
  refine ex_while (WSd a new start h pos μ) (n := pos) ⟨h, pos, .un, .un, _, (upd_same nd hm).symm, rfl, hp, by rw [hs]; exact hd, rfl⟩ ?_
  rintro m σ μ₁ ⟨g, _, x, y, _, rfl, hgl, hpl, gd, hsd⟩
  have hg : (a, g.map Ru.av) ∈ upd a (g.map Ru.av) μ := upd_mem hm
  have hgL : g.length < 2 ^ 62 := by rw [hgl]; exact hl
  rw [sd] at hsd
  refine ⟨_, (by dictfold_shaped), fun hb => ?_, fun hb => ?_⟩
  · have hlt : start < m := Int.ofNat_lt.mp (of_decide_eq_true hb)
    rw [dif_pos hlt] at hsd
    have hm2 : (m - 1) / 2 < m := by room
    have hq := Nat.lt_trans hm2 hpl
    obtain ⟨par, hpar⟩ : ∃ par, g[(m - 1) / 2]? = some par := ⟨_, List.getElem?_eq_getElem hq⟩
    rw [hpar] at hsd
    dsimp only at hsd
    have hne := Nat.ne_of_lt hm2
    have hshr : ((m : Int) - 1).fdiv (2 ^ (1 : Int).toNat) = ((m - 1) / 2 : Nat) := by
      rw [Int.fdiv_eq_ediv_of_nonneg _ (by decide)]
      show ((m : Int) - 1) / 2 = _
      lia
    refine ex_assign (by dictfold_shaped) (by dictfold_puts) ?_
    rw [hshr]
    refine ex_assign (a := par.av) (evs_item (by dictfold_shaped) (by dictfold_shaped) (itm_map (LstAt.own hg) hpar hgL)) (by dictfold_puts) ?_
    refine ex_if (b := rlt new par) (evt_cmp (by dictfold_shaped) (by dictfold_shaped) (cmp_ru (set_ne hpar hne hpl gd))) (fun hb => ?_) fun hb => ?_
    · rw [hb, if_pos rfl] at hsd
      refine ex_set (i := m) (by dictfold_shaped) (by dictfold_shaped) (by dictfold_shaped) (set_map hg hpl hgL) ?_
      refine ex_assign (by dictfold_shaped) (by dictfold_puts) ?_
      exact ex_cont ⟨_, hm2, g.set m par, (m - 1) / 2, _, _, _, upd_upd, by rw [List.length_set]; exact hgl, by rw [List.length_set]; exact hq, set_swap_nodup hpar hne hpl gd, hsd⟩
    · rw [hb, if_neg Bool.false_ne_true] at hsd
      refine ex_nil (ex_brk ?_)
      refine ex_set (i := m) (by dictfold_shaped) (by dictfold_shaped) (by dictfold_shaped) (set_map hg hpl hgL) ?_
      exact ex_nil ⟨rfl, by rw [upd_upd, ← hsd]; exact List.Sublist.refl _⟩
  · have hlt : ¬ start < m := fun q => of_decide_eq_false hb (Int.ofNat_lt.mpr q)
    rw [dif_neg hlt] at hsd
    refine ex_nil ?_
    refine ex_set (i := m) (by dictfold_shaped) (by dictfold_shaped) (by dictfold_shaped) (set_map hg hpl hgL) ?_
    exact ex_nil ⟨rfl, by rw [upd_upd, ← hsd]; exact List.Sublist.refl _⟩
end
section
noncomputable def chd (h : List Ru) (pos : Nat) : Nat :=
  match h[2 * pos + 1]?, h[2 * pos + 1 + 1]? with
  | some x, some y => if rlt x y then 2 * pos + 1 else 2 * pos + 1 + 1
  | _, _ => 2 * pos + 1
theorem chd_or (h : List Ru) (pos : Nat) : chd h pos = 2 * pos + 1 ∨ (chd h pos = 2 * pos + 1 + 1 ∧ 2 * pos + 1 + 1 < h.length) := by
  unfold chd
  split
  · rename_i x y hx hy
    have := (List.getElem?_eq_some_iff.mp hy).1
    split
    · exact .inl rfl
    · exact .inr ⟨rfl, this⟩
  · exact .inl rfl
theorem chd_gt (h : List Ru) (pos : Nat) : pos < chd h pos := by
  have h1 : pos < 2 * pos + 1 := by lia
  rcases chd_or h pos with e | ⟨e, _⟩
  · rw [e]; exact h1
  · rw [e]; exact Nat.lt_succ_of_lt h1
noncomputable def su (h : List Ru) (pos : Nat) : List Ru × Nat :=
  if hp : 2 * pos + 1 < h.length then
    match h[chd h pos]? with
    | some c => su (h.set pos c) (chd h pos)
    | none => (h, pos)
  else (h, pos)
termination_by h.length - pos
decreasing_by
  rw [List.length_set]
  exact Nat.sub_lt_sub_left (Nat.lt_of_le_of_lt (Nat.le_trans (Nat.le_mul_of_pos_left pos Nat.two_pos) (Nat.le_succ _)) hp) (chd_gt h pos)
noncomputable def siftup (h : List Ru) (pos : Nat) : List Ru :=
  match h[pos]? with
  | some new => sd new pos ((su h pos).1.set (su h pos).2 new) (su h pos).2
  | none => h
noncomputable abbrev S_siftup : FnS := { names := [("heap", false), ("pos", false), ("endpos", false), ("startpos", false), ("newitem", false), ("childpos", false), ("rightpos", false)], globs := [("len", .builtin "len"), ("_siftdown", .ref 111)] }
variable {T : TopCx} {μ μ' : Sto} {a : Addr}
theorem get_ne {h : List Ru} {i j : Nat} {x y : Ru} (nd : (h.map (·.n)).Nodup) (hi : h[i]? = some x) (hj : h[j]? = some y) (hij : i ≠ j) : x.n ≠ y.n := by
  obtain ⟨hil, ei⟩ := List.getElem?_eq_some_iff.mp hi
  obtain ⟨hjl, ej⟩ := List.getElem?_eq_some_iff.mp hj
  intro q
  have h1 : (h.map (·.n))[i]'(by simpa using hil) = (h.map (·.n))[j]'(by simpa using hjl) := by simp [ei, ej, q]
  exact hij ((List.getElem_inj nd).mp h1)
inductive WSu (a : Addr) (new : Ru) (h : List Ru) (pos : Nat) (μ : Sto) : Nat → Sig → Sto → Prop
  | mk (g : List Ru) (p : Nat) (x : AV) (μ₁ : Sto) (e : μ₁ = upd a (g.map Ru.av) μ) (hgl : g.length = h.length) (hpl : p < g.length) (gd : ((g.set p new).map (·.n)).Nodup) (hsu : su g p = su h pos) :
      WSu a new h pos μ (h.length - p) ([("heap", .own a), ("pos", .int p), ("endpos", .int (h.length : Nat)), ("startpos", .int pos), ("newitem", new.av), ("childpos", .int ((2 * p + 1 : Nat) : Int)), ("rightpos", x)] : Sig) μ₁
set_option maxHeartbeats 1000000 in
theorem fn_siftup {d : Nat} {h : List Ru} {new : Ru} {pos : Nat} (hd1 : 1 ≤ d) (hn : h[pos]? = some new) (hd : (h.map (·.n)).Nodup) (hl : h.length < 2 ^ 60) (hm : (a, h.map Ru.av) ∈ μ) :
    Fn T (.ref 118) (d + 1) [.own a, .int pos] μ .none (upd a ((siftup h pos).map Ru.av) μ) := by
  refine fn_intro (S := S_siftup) (σ₀ := [("heap", .own a), ("pos", .int pos), ("endpos", .un), ("startpos", .un), ("newitem", .un), ("childpos", .un), ("rightpos", .un)]) (i := 17) (params := ["heap", "pos"])
    (by decide) (by decide +kernel) rfl (by simp) rfl fun nd C hC hI => ?_
  have hdC := Nat.le_trans hd1 (Nat.le_of_eq hC.symm)
  have hp : pos < h.length := (List.getElem?_eq_some_iff.mp hn).1
  have hs : h.set pos new = h := by
    obtain ⟨_, e⟩ := List.getElem?_eq_some_iff.mp hn
    rw [← e]; simp
  refine ex_assign (a := .int (h.length : Nat)) (evs_call (by dictfold_shaped) (by dictfold_shaped) (by dictfold_shaped2) (ca_lenm (LstAt.own hm) (by room))) (by dictfold_puts) ?_
  refine ex_assign (by dictfold_shaped) (by dictfold_puts) ?_
  refine ex_assign (a := new.av) (evs_item (by dictfold_shaped) (by dictfold_shaped) (itm_map (LstAt.own hm) hn (by room))) (by dictfold_puts) ?_
  refine ex_assign (a := .int ((2 * pos + 1 : Nat) : Int)) (by dictfold_shaped) (by dictfold_puts) ?_
  refine ex_while (WSu a new h pos μ) (n := h.length - pos) ⟨h, pos, .un, _, (upd_same nd hm).symm, rfl, hp, by rw [hs]; exact hd, rfl⟩ ?_
  rintro _ σ μ₁ ⟨g, p, x, _, rfl, hgl, hpl, gd, hsu⟩
  have hg : (a, g.map Ru.av) ∈ upd a (g.map Ru.av) μ := upd_mem hm
  have hgL : g.length < 2 ^ 62 := by rw [hgl]; exact Nat.lt_trans hl (by decide)
  rw [su] at hsu
  refine ⟨_, (by dictfold_shaped), fun hb => ?_, fun hb => ?_⟩
  · have hlt : 2 * p + 1 < g.length := by rw [hgl]; exact Int.ofNat_lt.mp (of_decide_eq_true hb)
    rw [dif_pos hlt] at hsu
    have hch := chd_or g p
    have hcl : chd g p < g.length := hch.elim (fun e => e ▸ hlt) fun e => e.1 ▸ e.2
    obtain ⟨c, hc⟩ : ∃ c, g[chd g p]? = some c := ⟨_, List.getElem?_eq_getElem hcl⟩
    rw [hc] at hsu
    dsimp only at hsu
    have fin : ∀ y : AV, Ex C ((forB 17 4).drop 2) [("heap", .own a), ("pos", .int p), ("endpos", .int (h.length : Nat)), ("startpos", .int pos), ("newitem", new.av), ("childpos", .int (chd g p : Nat)), ("rightpos", y)] (upd a (g.map Ru.av) μ) (KLoop (WSu a new h pos μ) (h.length - p) (Then C ((fbody 17).drop 5) (KRet .none (upd a ((siftup h pos).map Ru.av) μ)))) := fun y => by
      refine ex_set (i := p) (b := c.av) (evs_item (by dictfold_shaped) (by dictfold_shaped) (itm_map (LstAt.own hg) hc hgL)) (by dictfold_shaped) (by dictfold_shaped) (set_map hg hpl hgL) ?_
      refine ex_assign (by dictfold_shaped) (by dictfold_puts) ?_
      refine ex_assign (a := .int ((2 * chd g p + 1 : Nat) : Int)) (by dictfold_shaped) (by dictfold_puts) ?_
      exact ex_nil ⟨_, Nat.sub_lt_sub_left (hgl ▸ hpl) (chd_gt g p), g.set p c, chd g p, _, _, upd_upd, by rw [List.length_set]; exact hgl, by rw [List.length_set]; exact hcl, set_swap_nodup hc (Nat.ne_of_gt (chd_gt g p)) hpl gd, hsu⟩
    refine ex_assign (a := .int ((2 * p + 1 + 1 : Nat) : Int)) (by dictfold_shaped) (by dictfold_puts) ?_
    obtain ⟨y, hy⟩ : ∃ y, g[2 * p + 1]? = some y := ⟨_, List.getElem?_eq_getElem hlt⟩
    have hz : ∀ z, g[2 * p + 1 + 1]? = some z → y.n ≠ z.n := fun z hz => by
      refine get_ne gd (i := 2 * p + 1) (j := 2 * p + 1 + 1) ?_ ?_ (Nat.ne_of_lt (Nat.lt_succ_self _))
      · rw [List.getElem?_set_ne (by room)]; exact hy
      · rw [List.getElem?_set_ne (by room)]; exact hz
    refine ex_if (b := decide (chd g p = 2 * p + 1 + 1)) (evt_bool (ala (by dictfold_shaped) (fun q => ?_) fun q => ?_)) (fun q => ?_) fun q => ?_
    · have h1 : ¬ 2 * p + 1 + 1 < h.length := fun w => of_decide_eq_false q (Int.ofNat_lt.mpr w)
      exact decide_eq_false fun w => h1 (by rw [← w, ← hgl]; exact hcl)
    · have hr : 2 * p + 1 + 1 < g.length := by rw [hgl]; exact Int.ofNat_lt.mp (of_decide_eq_true q)
      obtain ⟨z, hz'⟩ : ∃ z, g[2 * p + 1 + 1]? = some z := ⟨_, List.getElem?_eq_getElem hr⟩
      refine ala (x := !rlt y z) (evt_not (evt_cmp (evs_item (by dictfold_shaped) (by dictfold_shaped) (itm_map (LstAt.own hg) hy hgL)) (evs_item (by dictfold_shaped) (by dictfold_shaped) (itm_map (LstAt.own hg) hz' hgL)) (cmp_ru (hz z hz')))) (fun q => ?_) fun q => ale ?_
      · unfold chd; rw [hy, hz']; simp at q; simp [q]
      · unfold chd; rw [hy, hz']; simp at q; simp [q]
    · refine ex_assign (by dictfold_shaped) (by dictfold_puts) (ex_nil ?_)
      rw [← of_decide_eq_true q]
      exact fin _
    · have hch : chd g p = 2 * p + 1 := hch.resolve_right fun w => of_decide_eq_false q w.1
      refine ex_nil ?_
      rw [← hch]
      exact fin _
  · have hlt : ¬ 2 * p + 1 < g.length := fun w => of_decide_eq_false hb (Int.ofNat_lt.mpr (hgl ▸ w))
    rw [dif_neg hlt] at hsu
    refine ex_nil ?_
    refine ex_set (i := p) (by dictfold_shaped) (by dictfold_shaped) (by dictfold_shaped) (set_map hg hpl hgL) ?_
    rw [upd_upd]
    refine ex_expr (evs_call (by dictfold_shaped) (by dictfold_shaped) (by dictfold_shaped2) (ca_fn (fn_siftdown (d := 0) (h := g.set p new) (new := new) (List.getElem?_set_self hpl) gd (by rw [List.length_set]; exact hgL) (upd_mem hm)) (Nat.le_trans hd1 (Nat.le_of_eq hC.symm)))
      (fun _ _ => rfl)) ?_ hI
    refine ex_nil ⟨rfl, ?_⟩
    rw [upd_upd]
    unfold siftup
    rw [hn, ← hsu]
    exact List.Sublist.refl _
end
section
variable {T : TopCx} {μ μ' : Sto} {a : Addr}
noncomputable def hpush (h : List Ru) (x : Ru) : List Ru := sd x 0 (h ++ [x]) h.length
noncomputable abbrev S_heappush : FnS := { names := [("heap", false), ("item", false)], globs := [("len", .builtin "len"), ("_siftdown", .ref 111)] }
set_option maxHeartbeats 1000000 in
theorem fn_heappush {d : Nat} {h : List Ru} {x : Ru} (hd1 : 1 ≤ d) (hd : ((h ++ [x]).map (·.n)).Nodup) (hl : h.length < 2 ^ 60) (hz : h.length < sizeLine) (hm : (a, h.map Ru.av) ∈ μ) :
    Fn T (.ref 76) (d + 1) [.own a, x.av] μ .none (upd a ((hpush h x).map Ru.av) μ) := by
  refine fn_intro (S := S_heappush) (σ₀ := [("heap", .own a), ("item", x.av)]) (i := 11) (params := ["heap", "item"])
    (by decide) (by decide +kernel) rfl (by simp) rfl fun nd C hC hI => ?_
  have hdC := Nat.le_trans hd1 (Nat.le_of_eq hC.symm)
  have hm' : (a, (h ++ [x]).map Ru.av) ∈ upd a ((h ++ [x]).map Ru.av) μ := upd_mem hm
  refine ex_expr (evs_meth (a := .own a) (as := [x.av]) (by dictfold_shaped) (isOf_list (LstAt.own hm)) m_append (by dictfold_shaped) (ca_append hm (upd_up hm) (by simpa using hz))) ?_ hI
  have e1 : h.map Ru.av ++ [x.av] = (h ++ [x]).map Ru.av := by simp
  rw [e1]
  refine ex_expr (evs_call (by dictfold_shaped) (evl_cons (by dictfold_shaped) (evl_cons (by dictfold_shaped) (evl_cons (a := .int (h.length : Nat)) (evs_bin (a := .int ((h.length + 1 : Nat) : Int)) (evs_call (by dictfold_shaped) (by dictfold_shaped) (by dictfold_shaped2) (ca_len (LstAt.own hm') (by simp) (by room))) (by dictfold_shaped) ?_) evl_nil))) (by dictfold_shaped2)
    (ca_fn (fn_siftdown (d := 0) (start := 0) (h := h ++ [x]) (new := x) (pos := h.length) (by simp) hd (by simp; lia) hm') (by room))) ?_ hI
  · have : ((h.length : Nat) : Int) = ((h.length + 1 : Nat) : Int) - 1 := by room
    rw [this]; exact op_sub
  · refine ex_nil ⟨rfl, ?_⟩
    rw [upd_upd]; exact List.Sublist.refl _
noncomputable def hpop : List Ru → List Ru
  | [] => []
  | _ :: r => match r.getLast? with
    | none => []
    | some y => siftup (y :: r.dropLast) 0
noncomputable abbrev S_heappop : FnS := { names := [("heap", false), ("lastelt", false), ("returnitem", false)], globs := [("_siftup", .ref 118)] }
set_option maxHeartbeats 1000000 in
theorem fn_heappop {d : Nat} {x : Ru} {r : List Ru} (hd1 : 3 ≤ d) (hd : ((x :: r).map (·.n)).Nodup) (hl : r.length < 2 ^ 59) (hz : r.length < sizeLine) (hm : (a, (x :: r).map Ru.av) ∈ μ) :
    Fn T (.ref 83) (d + 1) [.own a] μ x.av (upd a ((hpop (x :: r)).map Ru.av) μ) := by
  refine fn_intro (S := S_heappop) (σ₀ := [("heap", .own a), ("lastelt", .un), ("returnitem", .un)]) (i := 12) (params := ["heap"])
    (by decide) (by decide +kernel) rfl (by simp) rfl fun nd C hC hI => ?_
  have hdC := Nat.le_trans hd1 (Nat.le_of_eq hC.symm)
  obtain ⟨g, y, hg⟩ : ∃ g y, x :: r = g ++ [y] := ⟨(x :: r).dropLast, (x :: r).getLast (by simp), (List.dropLast_concat_getLast (by simp)).symm⟩
  have hgl : g.length = r.length := by have := congrArg List.length hg; simp at this; lia
  have hm0 : (a, g.map Ru.av ++ [y.av]) ∈ μ := by rw [hg] at hm; simpa using hm
  have hm' : (a, g.map Ru.av) ∈ upd a (g.map Ru.av) μ := upd_mem hm
  refine ex_assign (a := y.av) (evs_meth (a := .own a) (as := []) (by dictfold_shaped) (isOf_list (LstAt.own hm0)) m_pop (by dictfold_shaped) (ca_pop hm0 (upd_up hm0) (by simp; lia))) (by dictfold_puts) ?_
  refine ex_if (b := !g.isEmpty) (evt_val (a := .own a) (by dictfold_shaped) (by have := tru_list (C := C) (σ := [("heap", .own a), ("lastelt", y.av), ("returnitem", .un)]) (LstAt.own hm') (by simp; lia); simpa using this) (fun _ => rfl)) (fun q => ?_) fun q => ?_
  · cases g with
    | nil => cases q
    | cons z g =>
      have hz : z = x := by cases hg; rfl
      subst hz
      have hr : r = g ++ [y] := by cases hg; rfl
      refine ex_assign (a := z.av) (evs_item (by dictfold_shaped) (by dictfold_shaped) (itm_list (LstAt.own hm') (nth_nat (i := 0) (by simp)) (by first | lia | (simp; done) | (simp; lia) | (simp at *; lia)))) (by dictfold_puts) ?_
      refine ex_set (i := 0) (by dictfold_shaped) (by dictfold_shaped) (by dictfold_shaped) (set_own hm' (upd_up hm') (by room) (by first | lia | (simp; done) | (simp; lia) | (simp at *; lia)) (by first | lia | (simp; done) | (simp; lia) | (simp at *; lia))) ?_
      rw [upd_upd]
      have e1 : (((z :: g).map Ru.av).set (0 : Int).toNat y.av) = (y :: g).map Ru.av := by simp
      rw [e1]
      have hdn : ((y :: g).map (·.n)).Nodup := by
        rw [hr] at hd
        have := (List.nodup_cons.mp (by simpa using hd : (z.n :: ((g ++ [y]).map (·.n))).Nodup)).2
        have p : ((g ++ [y]).map (·.n)).Perm ((y :: g).map (·.n)) := (List.perm_append_comm (l₁ := g) (l₂ := [y])).map _
        exact p.nodup_iff.mp this
      refine ex_expr (evs_call (by dictfold_shaped) (by dictfold_shaped) (by dictfold_shaped2) (ca_fn (fn_siftup (d := 1) (h := y :: g) (new := y) (pos := 0) (by room) (by simp) hdn (by first | lia | (simp; done) | (simp; lia) | (simp at *; lia)) (upd_mem hm)) (by room))) ?_ hI
      rw [upd_upd]
      refine ex_ret (by dictfold_shaped) ⟨rfl, ?_⟩
      have : hpop (z :: r) = siftup (y :: g) 0 := by
        show (match r.getLast? with | none => [] | some y => siftup (y :: r.dropLast) 0) = _
        rw [hr]; simp
      rw [this]; exact List.Sublist.refl _
  · have hge : g = [] := by simpa using q
    subst hge
    cases hg
    refine ex_nil ?_
    refine ex_ret (by dictfold_shaped) ⟨rfl, ?_⟩
    exact List.Sublist.refl _
noncomputable def hrepl (h : List Ru) (x : Ru) : List Ru := siftup (h.set 0 x) 0
noncomputable abbrev S_heapreplace : FnS := { names := [("heap", false), ("item", false), ("returnitem", false)], globs := [("_siftup", .ref 118)] }
set_option maxHeartbeats 1000000 in
theorem fn_heapreplace {d : Nat} {x y : Ru} {r : List Ru} (hd1 : 3 ≤ d) (hd : ((y :: r).map (·.n)).Nodup) (hl : r.length < 2 ^ 59) (hm : (a, (x :: r).map Ru.av) ∈ μ) :
    Fn T (.ref 90) (d + 1) [.own a, y.av] μ x.av (upd a ((hrepl (x :: r) y).map Ru.av) μ) := by
  refine fn_intro (S := S_heapreplace) (σ₀ := [("heap", .own a), ("item", y.av), ("returnitem", .un)]) (i := 13) (params := ["heap", "item"])
    (by decide) (by decide +kernel) rfl (by simp) rfl fun nd C hC hI => ?_
  have hdC := Nat.le_trans hd1 (Nat.le_of_eq hC.symm)
  refine ex_assign (a := x.av) (evs_item (by dictfold_shaped) (by dictfold_shaped) (itm_list (LstAt.own hm) (nth_nat (i := 0) (by simp)) (by simp; lia))) (by dictfold_puts) ?_
  refine ex_set (i := 0) (by dictfold_shaped) (by dictfold_shaped) (by dictfold_shaped) (set_own hm (upd_up hm) (by room) (by first | lia | (simp; done) | (simp; lia) | (simp at *; lia)) (by first | lia | (simp; done) | (simp; lia) | (simp at *; lia))) ?_
  have e1 : (((x :: r).map Ru.av).set (0 : Int).toNat y.av) = (y :: r).map Ru.av := by simp
  rw [e1]
  refine ex_expr (evs_call (by dictfold_shaped) (by dictfold_shaped) (by dictfold_shaped2) (ca_fn (fn_siftup (d := 1) (h := y :: r) (new := y) (pos := 0) (by room) (by simp) hd (by simp; lia) (upd_mem hm)) (by room))) ?_ hI
  rw [upd_upd]
  exact ex_ret (by dictfold_shaped) ⟨rfl, List.Sublist.refl _⟩
noncomputable def hpp (h : List Ru) (x : Ru) : Ru × List Ru :=
  match h with
  | [] => (x, [])
  | y :: r => if rlt y x then (y, hrepl (y :: r) x) else (x, y :: r)
noncomputable abbrev S_heappushpop : FnS := { names := [("heap", false), ("item", false)], globs := [("_siftup", .ref 118)] }
set_option maxHeartbeats 1000000 in
theorem fn_heappushpop {d : Nat} {x : Ru} {h : List Ru} (hd1 : 3 ≤ d) (hd : ((h ++ [x]).map (·.n)).Nodup) (hl : h.length < 2 ^ 59) (hm : (a, h.map Ru.av) ∈ μ) :
    Fn T (.ref 97) (d + 1) [.own a, x.av] μ (hpp h x).1.av (upd a ((hpp h x).2.map Ru.av) μ) := by
  refine fn_intro (S := S_heappushpop) (σ₀ := [("heap", .own a), ("item", x.av)]) (i := 14) (params := ["heap", "item"])
    (by decide) (by decide +kernel) rfl (by simp) rfl fun nd C hC hI => ?_
  have hdC := Nat.le_trans hd1 (Nat.le_of_eq hC.symm)
  have htr : ∀ σ, Tru C (.own a) σ μ (!h.isEmpty) := fun σ => by
    have := tru_list (C := C) (σ := σ) (LstAt.own hm) (by simp; lia)
    simpa using this
  cases h with
  | nil =>
    refine ex_if (b := false) (evt_bool (ala (evt_val (by dictfold_shaped) (htr _) (fun _ => rfl)) (fun _ => rfl) fun q => nomatch q)) (fun q => nomatch q) fun _ => ex_nil ?_
    refine ex_ret (a := x.av) (by dictfold_shaped) ⟨rfl, ?_⟩
    show (upd a [] μ).Sublist μ
    rw [upd_same nd (by simpa using hm)]; exact List.Sublist.refl _
  | cons y r =>
    have hl : r.length < 2 ^ 59 := by simp at hl; lia
    have hne : y.n ≠ x.n := by
      have := (List.nodup_cons.mp (by simpa using hd : (y.n :: ((r ++ [x]).map (·.n))).Nodup)).1
      intro q; apply this; rw [q]; simp
    have hdn : ((x :: r).map (·.n)).Nodup := by
      have := (List.nodup_cons.mp (by simpa using hd : (y.n :: ((r ++ [x]).map (·.n))).Nodup)).2
      have p : ((r ++ [x]).map (·.n)).Perm ((x :: r).map (·.n)) := (List.perm_append_comm (l₁ := r) (l₂ := [x])).map _
      exact p.nodup_iff.mp this
    refine ex_if (b := rlt y x) (evt_bool (ala (evt_val (by dictfold_shaped) (htr _) (fun _ => rfl)) (fun q => nomatch q) fun _ =>
      ala (evt_cmp (evs_item (by dictfold_shaped) (by dictfold_shaped) (itm_list (LstAt.own hm) (nth_nat (i := 0) (by simp)) (by simp; lia))) (by dictfold_shaped) (cmp_ru hne)) (fun q => q) fun q => ale q)) (fun q => ?_) fun q => ex_nil ?_
    · have e1 : (((y :: r).map Ru.av).set (0 : Int).toNat x.av) = (x :: r).map Ru.av := by simp
      refine ex_asgT (μ₁ := μ) (a := .tup [y.av, x.av]) ?_ ?_ (fun _ => rfl) sw_item
      · exact ev_tuple (evl_cons (evs_item (by dictfold_shaped) (by dictfold_shaped) (itm_list (LstAt.own hm) (nth_nat (i := 0) (by simp)) (by simp; lia))) (by dictfold_shaped))
      · refine asg_name_item (by dictfold_puts) ?_
        refine asg_item (i := 0) (by dictfold_shaped) (by dictfold_shaped) (set_own hm (upd_up hm) (by room) (by first | lia | (simp; done) | (simp; lia) | (simp at *; lia)) (by first | lia | (simp; done) | (simp; lia) | (simp at *; lia))) ?_
        rw [e1]
        refine ex_expr (evs_call (by dictfold_shaped) (by dictfold_shaped) (by dictfold_shaped2) (ca_fn (fn_siftup (d := 1) (h := x :: r) (new := x) (pos := 0) (by room) (by simp) hdn (by simp; lia) (upd_mem hm)) (by room))) ?_ hI
        rw [upd_upd]
        refine ex_nil (ex_ret (a := y.av) (by dictfold_shaped) ⟨?_, ?_⟩)
        · simp [hpp, q]
        · simp only [hpp, q, if_true]; exact List.Sublist.refl _
    · refine ex_ret (a := x.av) (by dictfold_shaped) ⟨?_, ?_⟩
      · simp [hpp, q]
      · simp only [hpp, q, Bool.false_eq_true, if_false]
        rw [upd_same nd hm]; exact List.Sublist.refl _
end
section
variable {T : TopCx} {μ μ' : Sto} {a : Addr}
theorem set_swap_perm {h : List Ru} {p q : Nat} {new par : Ru} (hq : h[q]? = some par) (hpq : q ≠ p) (hp : p < h.length) : ((h.set p par).set q new).Perm (h.set p new) := by
  obtain ⟨hql, e⟩ := List.getElem?_eq_some_iff.mp hq
  have hh : (h.set p par).set q new = ((h.set p new).set p par).set q new := by rw [List.set_set]
  have hs : ((h.set p new).set p par).set q new = ((h.set p new).set p ((h.set p new)[q]'(by simpa using hql))).set q ((h.set p new)[p]'(by simpa using hp)) := by
    congr 1
    · congr 1
      rw [List.getElem_set_ne (Ne.symm hpq)]; exact e.symm
    · simp
  rw [hh, hs]
  exact List.set_set_perm (as := h.set p new) (i := p) (j := q) (by simpa using hp) (by simpa using hql)
theorem sd_perm (new : Ru) (start : Nat) : ∀ (pos : Nat) (h : List Ru), pos < h.length → (sd new start h pos).Perm (h.set pos new) := by
  intro pos
  induction pos using Nat.strongRecOn with
  | ind pos ih =>
    intro h hp
    rw [sd]
    split
    · rename_i hlt
      split
      · rename_i par hpar
        split
        · refine (ih ((pos - 1) / 2) (by room) _ (by simp; lia)).trans ?_
          exact set_swap_perm hpar (by room) hp
        · exact List.Perm.refl _
      · exact List.Perm.refl _
    · exact List.Perm.refl _
theorem su_perm (new : Ru) : ∀ (n : Nat) (h : List Ru) (pos : Nat), h.length - pos = n → pos < h.length → (su h pos).2 < (su h pos).1.length ∧ (su h pos).1.length = h.length ∧ ((su h pos).1.set (su h pos).2 new).Perm (h.set pos new) := by
  intro n
  induction n using Nat.strongRecOn with
  | ind n ih =>
    intro h pos hn hp
    rw [su]
    split
    · rename_i hlt
      have hch := chd_or h pos
      split
      · rename_i c hc
        have hc' := (List.getElem?_eq_some_iff.mp hc).1
        obtain ⟨h1, h2, h3⟩ := ih (h.length - chd h pos) (by room) (h.set pos c) (chd h pos) (by simp) (by simpa using hc')
        refine ⟨h1, by simpa using h2, h3.trans (set_swap_perm hc (by room) hp)⟩
      · exact ⟨hp, rfl, List.Perm.refl _⟩
    · exact ⟨hp, rfl, List.Perm.refl _⟩
theorem siftup_perm {h : List Ru} {pos : Nat} (hp : pos < h.length) : (siftup h pos).Perm h := by
  unfold siftup
  rw [List.getElem?_eq_getElem hp]
  obtain ⟨h1, h2, h3⟩ := su_perm h[pos] _ h pos rfl hp
  refine (sd_perm _ _ _ _ (by simpa using h1)).trans ?_
  rw [List.set_set]
  refine h3.trans ?_
  rw [List.set_getElem_self]
noncomputable def hfy (h : List Ru) : Nat → List Ru
  | 0 => h
  | k + 1 => hfy (siftup h k) k
noncomputable def heapf (h : List Ru) : List Ru := hfy h (h.length / 2)
noncomputable def downs (k : Nat) : List AV := (List.range k).reverse.map fun (i : Nat) => .int (i : Int)
theorem rngs_downs (n : Nat) : rngs ((n : Int) - 1) (-1) n = downs n := by
  refine List.ext_getElem (by simp [rngs, downs]) fun i h1 h2 => ?_
  have hi : i < n := by simpa [rngs] using h1
  simp [rngs, downs]
  lia
theorem downs_succ (k : Nat) : downs (k + 1) = .int (k : Int) :: downs k := by simp [downs, List.range_succ]
noncomputable abbrev S_heapify : FnS := { names := [("x", false), ("n", false), ("i", false)], globs := [("len", .builtin "len"), ("reversed", .type "reversed"), ("range", .type "range"), ("_siftup", .ref 118)] }
inductive WHf (a : Addr) (h : List Ru) (μ : Sto) (as : List AV) : Sig → Sto → Prop
  | mk (g : List Ru) (k : Nat) (x : AV) (μ₁ : Sto) (has : as = downs k) (e : μ₁ = upd a (g.map Ru.av) μ) (hp : g.Perm h) (hk : k ≤ h.length / 2) (hh : hfy g k = heapf h) : WHf a h μ as ([("x", .own a), ("n", .int (h.length : Nat)), ("i", x)] : Sig) μ₁
set_option maxHeartbeats 1000000 in
theorem fn_heapify {d : Nat} {h : List Ru} (hd1 : 3 ≤ d) (hd : (h.map (·.n)).Nodup) (hl : h.length < 2 ^ 59) (hm : (a, h.map Ru.av) ∈ μ) :
    Fn T (.ref 104) (d + 1) [.own a] μ .none (upd a ((heapf h).map Ru.av) μ) := by
  refine fn_intro (S := S_heapify) (σ₀ := [("x", .own a), ("n", .un), ("i", .un)]) (i := 15) (params := ["x"])
    (by decide) (by decide +kernel) rfl (by simp) rfl fun nd C hC hI => ?_
  have hdC := Nat.le_trans hd1 (Nat.le_of_eq hC.symm)
  refine ex_assign (a := .int (h.length : Nat)) (evs_call (by dictfold_shaped) (by dictfold_shaped) (by dictfold_shaped2) (ca_lenm (LstAt.own hm) (by room))) (by dictfold_puts) ?_
  have hdiv : ((h.length : Nat) : Int).fdiv 2 = (h.length / 2 : Nat) := by
    rw [Int.fdiv_eq_ediv_of_nonneg _ (by decide)]; lia
  refine ex_for (WHf a h μ)
    (evi_rev (n := h.length / 2) (by dictfold_shaped) (evs_call (as := [.int (h.length / 2 : Nat)]) (by dictfold_shaped) (evl_cons (μ₁ := μ) (by rw [← hdiv]; dictfold_shaped) evl_nil) (by dictfold_shaped2) ca_range1) (by room)) ?_ ?_ ?_
  · exact ⟨h, h.length / 2, .un, _, rngs_downs _, (upd_same nd hm).symm, List.Perm.refl _, Nat.le_refl _, rfl⟩
  · rintro v as σ μ₁ ⟨g, k, x, _, hk, rfl, hp, hkl, hh⟩
    cases k with
    | zero => simp [downs] at hk
    | succ k =>
      rw [downs_succ] at hk
      cases hk
      have hlen := hp.length_eq
      refine asg_name (by dictfold_puts) ?_
      refine ex_expr (evs_call (by dictfold_shaped) (by dictfold_shaped) (by dictfold_shaped2) (ca_fn (fn_siftup (d := 1) (h := g) (new := g[k]'(by room)) (pos := k) (by room) (by simp) ((hp.map _).nodup_iff.mpr hd) (by room) (upd_mem hm)) (by room))) ?_ hI
      rw [upd_upd]
      refine ex_nil ⟨siftup g k, k, _, _, rfl, rfl, (siftup_perm (by room)).trans hp, by lia, hh⟩
  · rintro σ μ₁ ⟨g, k, x, _, hk, rfl, hp, hkl, hh⟩
    cases k with
    | succ k => rw [downs_succ] at hk; cases hk
    | zero => exact ex_nil (ex_nil ⟨rfl, hh ▸ List.Sublist.refl _⟩)
end
section
variable {T : TopCx} {S : FnS} {C : Cx T S} {B : Base} {s s₁ : Shared} {Z : Addr → Prop} {σ : Sig} {μ μ' : Sto} {a : Addr} {x y : Str} {p1 p2 p3 p4 pos : Pos} {rest : List Stmt} {c : AV} {v : Value} {E : Value → Shared → Prop}
theorem xname (ok : C.Ok) (R : Rp C B s Z σ μ) (hm : (x, c) ∈ σ) (hu : c.isUn = false) : wpAny (Md T) C.A (eval (.Name x pos) C.env) (fun v s' => s' = s ∧ VR s.heap Z v c) E s := by
  have hk : x ∈ S.names.map (·.1) := R.keys ▸ List.mem_map_of_mem (f := (·.1)) hm
  obtain ⟨⟨y, cl⟩, hp, rfl⟩ := List.mem_map.mp hk
  have un : c ≠ .un := fun e => by subst e; cases hu
  refine wpAny_Name ?_ (ok.dbgN _ hp)
  cases cl with
  | false =>
    obtain ⟨m, hn, hr⟩ := R.ns
    rcases hr _ _ hm hp with e | ⟨v, e, V⟩
    · exact absurd e un
    · exact wpAny_loadName_local ok.kind ((ok.names _ hp).1 rfl) hn e ⟨rfl, V⟩
  | true =>
    obtain ⟨hk, c, hc⟩ := (ok.names _ hp).2 rfl
    obtain ⟨_, _, _, v₀, hcell, hr⟩ := R.cel _ _ hc
    rcases hr _ hm hp with e | ⟨v, e, V⟩
    · exact absurd e un
    · subst e
      exact wpAny_loadName_cell ok.kind hk hc hcell ⟨rfl, V⟩
theorem xglob (A : Around) (ok : C.Ok) (R : Rp C B s Z σ μ) (hm : (x, v) ∈ S.globs) : wpAny (Md T) A (eval (.Name x pos) C.env) (fun u s' => s' = s ∧ u = v) E s := by
  obtain ⟨hk, hr⟩ := ok.globs _ hm
  refine Name_function_global ok.kind hk ?_ (ok.dbgG _ hm)
  have hg : s.heap.Ns C.env.globals T.mg := by rw [ok.glob]; exact ok.top.g.keeps R.top
  have hb : s.heap.Ns C.env.builtins T.mb := by rw [ok.blt]; exact ok.top.b.keeps R.top
  rcases hr with e | ⟨e1, e2⟩
  · exact loadGlobal_global hg e ⟨rfl, rfl⟩
  · exact loadGlobal_builtin hg e1 hb e2 ⟨rfl, rfl⟩
noncomputable abbrev Thr (s₁ : Shared) : Value → Shared → Prop := fun e s₂ => ∃ ea h' tk, e = .ref ea ∧ s₂ = { s₁ with heap := h', toks := tk } ∧ Heap.NewExc s₁.heap h' ea "IndexError"
theorem raise_pop (ok : C.Ok) (R : Rp C B s Z σ μ) (hx : (x, .own a) ∈ σ) (hm : (a, []) ∈ μ) (hline : (p3.endLine == p4.line) = true) :
    wpAny (Md T) C.A (execs (.Assign [.Name y p1] (.Call (.Attribute (.Name x p2) (Str.ofString "pop") p3) [] [] p4) pos :: rest) C.env) (fun _ _ => False) (Thr s) s := by
  refine wpAny_execs_cons (wpAny_mono (Q := fun _ _ => False) ?_ (fun _ _ x => x.elim) fun _ _ x => x)
  refine wpAny_Assign_Name (wpAny_mono (Q := fun _ _ => False) ?_ (fun _ _ x => x.elim) fun _ _ x => x) rfl
  refine wpAny_Call_method rfl rfl hline m_pop.pa m_pop.slot m_pop.ty (wpAny_mono (xname ok R hx rfl) ?_ fun _ _ x => x)
  rintro v s' ⟨rfl, V⟩
  obtain rfl := V.iown
  obtain ⟨_, _, _, vs, n, e, r⟩ := R.own _ hm
  obtain rfl := r.inil
  refine ⟨⟨_, e, rfl⟩, fun b q => ?_, ?_⟩
  · cases q; exact ⟨_, e, rfl⟩
  refine callWith_any rfl ?_
  refine Calls.spliced_nil ⟨fun Q' h => wpAny_pure (h _), ?_⟩
  refine call_meets PySem.F.slot_list_pop ⟨_, e, rfl⟩ PySem.F.entry_list_pop (PySem.F.args_list_pop_1 _) (PySem.AutoSeq1.list_pop_list_0 a _ n rfl) ⟨e, ok.hh, fun h' tk ea hx => ?_⟩
  exact ⟨ea, h', tk, rfl, rfl, hx⟩
theorem raise_item (ok : C.Ok) (R : Rp C B s Z σ μ) (hx : (x, .own a) ∈ σ) (hm : (a, []) ∈ μ) {i : Int} {k : Nat} (hi : 0 ≤ i) (hi2 : i < 2 ^ 62) :
    wpAny (Md T) C.A (execs (.Assign [.Name y p1] (.Subscript (.Name x p2) (.Constant (.int i) k p4) p3) pos :: rest) C.env) (fun _ _ => False) (Thr s) s := by
  refine wpAny_execs_cons (wpAny_mono (Q := fun _ _ => False) ?_ (fun _ _ x => x.elim) fun _ _ x => x)
  refine wpAny_Assign_Name (wpAny_mono (Q := fun _ _ => False) ?_ (fun _ _ x => x.elim) fun _ _ x => x) rfl
  refine Subscript_ (wpAny_mono (xname ok R hx rfl) ?_ fun _ _ x => x)
  rintro v s' ⟨rfl, V⟩
  obtain rfl := V.iown
  obtain ⟨_, _, _, vs, n, e, r⟩ := R.own _ hm
  obtain rfl := r.inil
  refine wpAny_Constant_int ?_
  refine tail_any (isList_of e).typeIs slot_list_getitem.lookup (wpAny_getItem_list_out ok.hh (isList_of e) (.inr (by simpa using hi)) (by room) (by room) fun h' tk ea hx => ?_) rfl
  exact ⟨ea, h', tk, rfl, rfl, hx⟩
theorem Hp.slots {F : List Addr} {s' : Shared} (H : Hp T B s Z μ) (hF : ∀ L ∈ F, T.hb.get? L = none ∧ ∃ o es ep, s.heap.get? L = some o ∧ o.data = .dict es ep)
    (k : ∀ b o, s.heap.get? b = some o → b ∉ F → s'.heap.get? b = some o) (kF : ∀ b o, b ∈ F → s.heap.get? b = some o → ∃ sl, s'.heap.get? b = some { o with slots := sl })
    (ho : s'.os = s.os) (hg : AllBare s'.gens) (ht : 0 < s'.toks) : Hp T B s' Z μ ∧ Le s.heap Z s'.heap Z ∧ (∀ b o, s.heap.get? b = some o → ∃ o', s'.heap.get? b = some o' ∧ KeepO o o') := by
  have nF : ∀ b o, s.heap.get? b = some o → Nd o → b ∉ F := fun b o e n hb => by
    obtain ⟨_, o', es, ep, e', hd⟩ := hF b hb
    rw [e] at e'; cases e'
    exact n es ep hd
  have kO : ∀ b o, s.heap.get? b = some o → ∃ o', s'.heap.get? b = some o' ∧ KeepO o o' := fun b o e => by
    by_cases hb : b ∈ F
    · obtain ⟨_, o', es, ep, e', hd⟩ := hF b hb
      rw [e] at e'; cases e'
      obtain ⟨sl, h⟩ := kF b o hb e
      exact ⟨_, h, .inr ⟨⟨es, ep, hd⟩, sl, rfl⟩⟩
    · exact ⟨o, k b o e hb, .refl o⟩
  have L : Le s.heap Z s'.heap Z := fun b z => ⟨z, fun o e => by
    obtain ⟨⟨o', e', n⟩, _⟩ := H.zok b z
    rw [e] at e'; cases e'
    exact k b o e (nF b o e n)⟩
  refine ⟨?_, L, kO⟩
  exact {
    top := fun b o e => k b o (H.top b o e) fun hb => by rw [(hF b hb).1] at e; cases e
    tab := by
      obtain ⟨ps, e, t⟩ := H.tab
      exact ⟨ps, k _ _ e (nF _ _ e fun _ _ q => nomatch q), t⟩
    os := ho.trans H.os
    gens := hg
    tk := ht
    keep := fun b o e h1 h2 => by
      obtain ⟨o', e', q⟩ := H.keep b o e h1 h2
      obtain ⟨o'', e'', q'⟩ := kO b o' e'
      exact ⟨o'', e'', q.trans q'⟩
    z0 := H.z0
    zn := H.zn
    zok := fun b z => ⟨let ⟨⟨o, e, n⟩, _⟩ := H.zok b z; ⟨o, (L b z).2 o e, n⟩, (H.zok b z).2⟩
    own := fun p hp => let ⟨h1, h2, h3, vs, n, e, r⟩ := H.own p hp; ⟨h1, h2, h3, vs, n, k _ _ e (nF _ _ e Nd.list), r.mono L⟩
    nd := H.nd }
theorem Rp.slots {F : List Addr} {s' : Shared} (R : Rp C B s Z σ μ) (hF : ∀ L ∈ F, T.hb.get? L = none ∧ ∃ o es ep, s.heap.get? L = some o ∧ o.data = .dict es ep)
    (k : ∀ b o, s.heap.get? b = some o → b ∉ F → s'.heap.get? b = some o) (kF : ∀ b o, b ∈ F → s.heap.get? b = some o → ∃ sl, s'.heap.get? b = some { o with slots := sl })
    (ho : s'.os = s.os) (hg : AllBare s'.gens) (ht : 0 < s'.toks) : Rp C B s' Z σ μ ∧ Le s.heap Z s'.heap Z := by
  obtain ⟨H, L, kO⟩ := R.toHp.slots hF k kF ho hg ht
  refine ⟨{ toHp := H, keys := R.keys, frs := R.frs, loc := R.loc, ns := ?_, cel := fun x c e => ?_ }, L⟩
  · obtain ⟨m, hn, q⟩ := R.ns
    exact ⟨m, Ns_keepO hn fun o e => kO _ o e, fun x a h1 h2 => (q x a h1 h2).imp id fun ⟨v, e, q⟩ => ⟨v, e, q.mono L⟩⟩
  · obtain ⟨h1, h0, h2, v₀, ⟨o, ho, hd⟩, q⟩ := R.cel x c e
    obtain ⟨o', ho', q'⟩ := kO c o ho
    exact ⟨h1, h0, h2, v₀, ⟨o', ho', q'.data.trans hd⟩, fun a h1 h2 => (q a h1 h2).imp id fun ⟨v, e, q⟩ => ⟨v, e, q.mono L⟩⟩
theorem Rp.frameList (R : Rp C B s Z σ μ) : ∃ l, C.A.frames = some l ∧ (∀ env ∈ l, env.scope.kind ≠ .module) ∧ (∀ env ∈ l, ∃ L, env.frame = some L) ∧ ∀ L ∈ l.filterMap (·.frame), T.hb.get? L = none ∧ ∃ o es ep, s.heap.get? L = some o ∧ o.data = .dict es ep := by
  obtain ⟨l, hl, k⟩ := R.frs0 (D := fun _ => False) fun _ h => h.elim
  refine ⟨l, hl, fun env he => (k env he).1, fun env he => let ⟨_, L, h, _⟩ := k env he; ⟨L, h⟩, fun L hL => ?_⟩
  obtain ⟨env, he, hf⟩ := List.mem_filterMap.mp hL
  obtain ⟨_, L', h2, h3, _, _, h4⟩ := k env he
  have : L' = L := Option.some.inj (h2.symm.trans hf)
  subst this
  exact ⟨h3, h4⟩
theorem funFrames_of {h base : Heap} : ∀ {l : List Env}, (∀ env ∈ l, env.scope.kind ≠ .module) → (∀ env ∈ l, ∃ L, env.frame = some L) → (∀ L ∈ l.filterMap (·.frame), base.get? L = none ∧ ∃ o es ep, h.get? L = some o ∧ o.data = .dict es ep) → h.FunFrames base l
  | [], _, _, _ => trivial
  | env :: r, h1, h2, h3 => by
    obtain ⟨L, hL⟩ := h2 env (.head _)
    obtain ⟨a, o, es, ep, b, c⟩ := h3 L (List.mem_filterMap.mpr ⟨env, .head _, hL⟩)
    exact ⟨h1 env (.head _), ⟨L, o, hL, a, b, fun vs q => by rw [c] at q; cases q⟩, funFrames_of (fun e he => h1 e (.tail _ he)) (fun e he => h2 e (.tail _ he)) fun L hL => h3 L (by
      obtain ⟨e, he, q⟩ := List.mem_filterMap.mp hL
      exact List.mem_filterMap.mpr ⟨e, .tail _ he, q⟩)⟩
end
section
section
variable {T : TopCx} {μ μ' : Sto} {a : Addr}
noncomputable abbrev S_out : FnS := { names := [("heap", false), ("kind", false), ("rule", false), ("gone", false)], globs := [("heappop", .ref 83), ("heapreplace", .ref 90), ("IndexError", .type "IndexError")] }
theorem ie_exc : isSubtype (.type "IndexError") (.type "BaseException") = pure true := by rw [isSubtype_type]; kernel_rfl
theorem ie_nt : isSubtype (.type ((Manifest.find? "IndexError").elim "type" fun x => x.metatype)) (.type "tuple") = pure false := by
  rw [show (Manifest.find? "IndexError").elim "type" (fun x => x.metatype) = "type" by kernel_rfl, isSubtype_type]; kernel_rfl
theorem ie_sub : isSubtype (.type "IndexError") (.type "IndexError") = pure true := by rw [isSubtype_type]; kernel_rfl
theorem IfExp_ {M : Model} {A : Around} {E : Value → Shared → Prop} {s : Shared} {env : Env} {t l r : Expr} {pos : Pos} {Q : Value → Shared → Prop}
    (h : wpAny M A (isTrue t env (eval t env)) (fun b s₁ => wpAny M A (eval (if b then l else r) env) Q E s₁) E s) : wpAny M A (eval (.IfExp t l r pos) env) Q E s := by
  show wpAny _ _ (isTrue t env (eval t env) >>= _) _ _ s
  refine wpAny_bind (wpAny_mono h (fun b s₁ h₁ => ?_) fun _ _ x => x)
  cases b <;> exact h₁
set_option maxHeartbeats 1000000 in
theorem fn_out_empty {d : Nat} {kind : Int} {rule : AV} (hd1 : 1 ≤ d) (hm : (a, []) ∈ μ) (hru : rule.isUn = false) : Fn T (.ref 185) (d + 1) [.own a, .int kind, rule] μ (.int (-1)) μ := by
  intro A B s Z vs tok hh hdep hun hfr H V
  refine fn_enter (S := S_out) (σ₀ := [("heap", .own a), ("kind", .int kind), ("rule", rule), ("gone", .un)]) (i := 29) (params := ["heap", "kind", "rule"])
    (by decide) (by decide +kernel) rfl (by simp) rfl tok hh hdep hun hfr H V fun C s₁ hC hI ok hCA hCF R hkeep hL => ?_
  obtain ⟨l, hl, hk, hfrm, hF⟩ := R.frameList
  obtain ⟨l', rfl⟩ : ∃ l', l = C.env :: l' := by
    rw [hCA] at hl
    have hl' : A.frames.map (C.env :: ·) = some l := hl
    cases q : A.frames with
    | none => rw [q] at hl'; cases hl'
    | some x => rw [q] at hl'; exact ⟨x, (Option.some.inj hl').symm⟩
  generalize hFe : (C.env :: l').filterMap (·.frame) = F at hF
  generalize hbe : hideAll s₁.heap F = base
  have hst : base.StaysIn s₁.heap := fun b o e => of_hideAll F (hbe ▸ e)
  have hget : ∀ b o, s₁.heap.get? b = some o → b ∉ F → base.get? b = some o := fun b o e h => hbe ▸ hideAll_get F e h
  have hFF : s₁.heap.FunFrames base (C.env :: l') := funFrames_of hk hfrm fun L hL => ⟨hbe ▸ hideAll_none F (hFe ▸ hL), (hF L (hFe ▸ hL)).2⟩
  have hdp := ok.depth
  have hun := ok.units
  refine wpAny_execs_cons (wpAny_mono (Q := fun fl s' => ∃ t, fl = .ret (.int (-1) t) ∧ Rp C B s' Z [("heap", .own a), ("kind", .int kind), ("rule", rule), ("gone", .un)] μ ∧ Le s₁.heap Z s'.heap Z) ?_ ?_ fun _ _ x => x)
  rotate_left
  · rintro fl s' ⟨t, rfl, R', L'⟩
    exact ⟨Z, R'.toHp, (Le.of_keep hkeep).trans L', .int _ _⟩
  refine wpAny_Try_except (wpAny_mono (Q := fun _ s' => s₁.toks ≤ s'.toks ∧ False) (E := fun e s' => s₁.toks ≤ s'.toks ∧ ∃ ea, e = .ref ea ∧ Thrown T base s₁.heap (C.env :: l') ea s') (wpAny_mon (Q := fun _ _ => False) (E := fun e s' => ∃ ea, e = .ref ea ∧ Thrown T base s₁.heap (C.env :: l') ea s') ?_) (fun _ _ x => x.2.elim) ?_)
  · refine wpAny_execs_cons (wpAny_mono (Q := fun _ _ => False) ?_ (fun _ _ x => x.elim) fun _ _ x => x)
    refine wpAny_Assign_Name (wpAny_mono (Q := fun _ _ => False) ?_ (fun _ _ x => x.elim) fun _ _ x => x) rfl
    refine IfExp_ (wpAny_isTrue_Compare1 (wpAny_mono (xname ok R (x := "kind") (c := .int kind) (by dictfold_has) rfl) ?_ fun _ _ x => x) rfl)
    rintro v s' ⟨rfl, Vk⟩
    obtain ⟨_, rfl⟩ := Vk.iint
    refine wpAny_Constant_int (PyProof.Rows.eq_int (wpAny_truthy_bool ?_))
    have hoff : ∀ x, (False ∨ ∃ p ∈ μ, p.1 = x) → OffF C B Z x := fun x h => h.elim False.elim fun ⟨p, hp, e⟩ => e ▸ R.own_off hp
    have H' := fun t (ht : 0 < t) => (R.toHp.rebase fun _ => False).toks t ht
    cases hb : kind == 3 with
    | true =>
      refine wpAny_Call_Name_kw (wpAny_mono (xglob C.A ok (R.toks _) (x := "heappop") (v := .ref 83) (by dictfold_has)) ?_ fun _ _ x => x)
      rintro v s' ⟨rfl, rfl⟩
      refine callWith_any rfl ?_
      refine Calls.spliced_cons (wpAny_mono (xname ok (R.toks _) (x := "heap") (c := .own a) (by dictfold_has) rfl) ?_ fun _ _ x => x)
      rintro v s' ⟨rfl, Vh⟩
      refine Calls.spliced_nil ?_
      refine ⟨fun Q' h => noe ((keeps_fn (by decide)).run ok B _ Z (R.toks _) Q' h), ?_⟩
      refine call_raises (S := S_heappop) (σ₀ := [("heap", .own a), ("lastelt", .un), ("returnitem", .un)]) (i := 12) (params := ["heap"]) (d := 0) (as := [.own a]) (by decide) (by decide +kernel) rfl (by simp) rfl
        tok ok.hh (by room) (by room) (R.frs0 hoff) (H' _ (Nat.succ_pos _)) (.one Vh) hl hst hFF fun C' s₂ ok' R' => ?_
      exact raise_pop ok' R' (by dictfold_has) hm rfl
    | false =>
      refine wpAny_Call_Name_kw (wpAny_mono (xglob C.A ok (R.toks _) (x := "heapreplace") (v := .ref 90) (by dictfold_has)) ?_ fun _ _ x => x)
      rintro v s' ⟨rfl, rfl⟩
      refine callWith_any rfl ?_
      refine Calls.spliced_cons (wpAny_mono (xname ok (R.toks _) (x := "heap") (c := .own a) (by dictfold_has) rfl) ?_ fun _ _ x => x)
      rintro v s' ⟨rfl, Vh⟩
      refine Calls.spliced_cons (wpAny_mono (xname ok (R.toks _) (x := "rule") (c := rule) (by dictfold_has) hru) ?_ fun _ _ x => x)
      rintro v s' ⟨rfl, Vr⟩
      refine Calls.spliced_nil ?_
      refine ⟨fun Q' h => noe ((keeps_fn (by decide)).run ok B _ Z (R.toks _) Q' h), ?_⟩
      refine call_raises (S := S_heapreplace) (σ₀ := [("heap", .own a), ("item", rule), ("returnitem", .un)]) (i := 13) (params := ["heap", "item"]) (d := 0) (as := [.own a, rule]) (by decide) (by decide +kernel) rfl (by simp) rfl
        tok ok.hh (by room) (by room) (R.frs0 hoff) (H' _ (Nat.succ_pos _)) (.cons Vh (.one Vr)) hl hst hFF fun C' s₂ ok' R' => ?_
      exact raise_item ok' R' (by dictfold_has) hm (by decide) (by decide)
  · rintro e s₂ ⟨hle, ea, rfl, X⟩
    refine noted_next hl X.frames hCF X.traced X.stays X.new fun h' hL' => ?_
    obtain ⟨k1, k2, k3, k4⟩ := hL'
    have keep : ∀ b o, s₁.heap.get? b = some o → b ∉ F → h'.get? b = some o := fun b o e h => k1 b o (hget b o e h)
    have nf : ∀ b o, b ∈ F → s₁.heap.get? b = some o → ∀ vs, o.data ≠ .fields vs := fun b o hb e vs q => by
      obtain ⟨_, o', es, ep, e', hd⟩ := hF b hb
      rw [e] at e'; cases e'; rw [hd] at q; cases q
    have ksl : KS s₁.heap h' := X.ks.trans k4
    obtain ⟨R₃, L₃⟩ := R.slots (s' := { s₂ with heap := h' }) (F := F) hF keep (fun b o hb e => ksl b o e (nf b o hb e)) (X.os.trans R.os.symm) X.gens (Nat.lt_of_lt_of_le R.tk hle)
    obtain ⟨oe, evs, t, oT, ts, he, hcls, hd, h1, hnT, hTe, hT, hdT, h3⟩ := k3
    refine wpAny_handleBy_builtin (X := "IndexError") (T := "IndexError") (b := true) ie_exc ie_nt ie_sub (wpAny_mono (xglob _ ok R₃ (x := "IndexError") (v := .type "IndexError") (by dictfold_has)) ?_ fun _ _ x => x)
    rintro v s' ⟨rfl, rfl⟩
    refine ⟨rfl, ⟨oe, he, hcls⟩, ?_⟩
    rw [if_pos rfl]
    refine wpAny_setFlight_none he hd h1 hT hdT (Array.getElem?_eq_some_iff.mp h3).1 ?_
    have other : ∀ b, b ≠ t → (h'.update t (Obj.mapFields (·.setIfInBounds 3 Value.none))).get? b = h'.get? b := fun b hb => Heap.get?_update_other _ _ (Ne.symm hb)
    obtain ⟨R₄, L₄⟩ := R.slots (s' := { s₂ with heap := h'.update t (Obj.mapFields (·.setIfInBounds 3 Value.none)) }) (F := F) hF
      (fun b o e h => (other b fun q => by have := hget b o e h; rw [q, hnT] at this; cases this).trans (keep b o e h))
      (fun b o hb e => by
        obtain ⟨sl, q⟩ := ksl b o e (nf b o hb e)
        refine ⟨sl, (other b fun w => ?_).trans q⟩
        rw [w, hT] at q
        have q' := Option.some.inj q
        rw [q'] at hdT
        exact nf b o hb e ts hdT) (X.os.trans R.os.symm) X.gens (Nat.lt_of_lt_of_le R.tk hle)
    refine wpAny_execs_cons (wpAny_Return_some ?_)
    show wpAny _ _ (eval _ _ >>= _) _ _ _
    refine wpAny_bind (wpAny_Constant_int ?_)
    exact wpAny_bind (wpAny_standAt (wpAny_holding (PyProof.Rows.neg_int ⟨_, rfl, (R₄.toks _).toks _, L₄⟩)))
end
end
section
section
variable {T : TopCx} {S : FnS} {C : Cx T S} {σ σ' : Sig} {μ μ' : Sto} {a : Addr}
set_option maxHeartbeats 1000000 in
theorem fn_out_pop {d : Nat} {x : Ru} {r : List Ru} {rule : AV} (hd1 : 4 ≤ d) (hd : ((x :: r).map (·.n)).Nodup) (hl : r.length < 2 ^ 59) (hz : r.length < sizeLine) (hm : (a, (x :: r).map Ru.av) ∈ μ) :
    Fn T (.ref 185) (d + 1) [.own a, .int 3, rule] μ (.int x.n) (upd a ((hpop (x :: r)).map Ru.av) μ) := by
  refine fn_intro (S := S_out) (σ₀ := [("heap", .own a), ("kind", .int 3), ("rule", rule), ("gone", .un)]) (i := 29) (params := ["heap", "kind", "rule"])
    (by decide) (by decide +kernel) rfl (by simp) rfl fun nd C hC hI => ?_
  have hdC := Nat.le_trans hd1 (Nat.le_of_eq hC.symm)
  refine ex_try0 ?_
  refine ex_assign (a := x.av) (evs_ife (b := true) (by dictfold_shaped) (fun _ => evs_call (by dictfold_shaped) (by dictfold_shaped) (by dictfold_shaped2) (ca_fn (fn_heappop (d := 3) (by room) hd hl hz hm) (by room)) (fun _ _ => rfl)) (fun q => nomatch q)) (by dictfold_puts) ?_
  refine ex_nil ?_
  exact ex_ret (a := .int x.n) (evs_item (a := x.av) (by dictfold_shaped) (by dictfold_shaped) (itm_tup (nth_nat (i := 1) rfl) (by show 3 < 2 ^ 62; decide))) ⟨rfl, List.Sublist.refl _⟩
set_option maxHeartbeats 1000000 in
theorem fn_out_repl {d : Nat} {x y : Ru} {r : List Ru} (hd1 : 4 ≤ d) (hd : ((y :: r).map (·.n)).Nodup) (hl : r.length < 2 ^ 59) (hm : (a, (x :: r).map Ru.av) ∈ μ) :
    Fn T (.ref 185) (d + 1) [.own a, .int 4, y.av] μ (.int x.n) (upd a ((hrepl (x :: r) y).map Ru.av) μ) := by
  refine fn_intro (S := S_out) (σ₀ := [("heap", .own a), ("kind", .int 4), ("rule", y.av), ("gone", .un)]) (i := 29) (params := ["heap", "kind", "rule"])
    (by decide) (by decide +kernel) rfl (by simp) rfl fun nd C hC hI => ?_
  have hdC := Nat.le_trans hd1 (Nat.le_of_eq hC.symm)
  refine ex_try0 ?_
  refine ex_assign (a := x.av) (evs_ife (b := false) (by dictfold_shaped) (fun q => nomatch q) (fun _ => evs_call (by dictfold_shaped) (by dictfold_shaped) (by dictfold_shaped2) (ca_fn (fn_heapreplace (d := 3) (by room) hd hl hm) (by room)) (fun _ _ => rfl))) (by dictfold_puts) ?_
  refine ex_nil ?_
  exact ex_ret (a := .int x.n) (evs_item (a := x.av) (by dictfold_shaped) (by dictfold_shaped) (itm_tup (nth_nat (i := 1) rfl) (by show 3 < 2 ^ 62; decide))) ⟨rfl, List.Sublist.refl _⟩
noncomputable def means (it : Bool × List Nat) (c : Nat) : Bool := occ it.2 [c] != it.1
noncomputable def takes : List Item → List Nat → Bool
  | [], name => name.isEmpty
  | none :: its, [] => takes its []
  | none :: its, c :: name => takes its (c :: name) || takes (none :: its) name
  | some _ :: _, [] => false
  | some it :: its, c :: name => means it c && takes its name
noncomputable abbrev S_means : FnS := { names := [("item", false), ("sign", false)], globs := [] }
theorem fn_means {d : Nat} {it : Bool × List Nat} {c : Nat} : Fn T (.ref 204) (d + 1) [itemAV (some it), .str [c]] μ (.bool (means it c)) μ := by
  refine fn_intro (S := S_means) (σ₀ := [("item", itemAV (some it)), ("sign", .str [c])]) (i := 32) (params := ["item", "sign"])
    (by decide) (by decide +kernel) rfl (by simp) rfl fun nd C hC hI => ?_
  have e : itemAV (some it) = .tup [.bool it.1, .str it.2] := by obtain ⟨t, x⟩ := it; rfl
  rw [e]
  exact ex_ret (a := .bool (means it c)) (evs_cmp (a := .bool (occ it.2 [c])) (b := .bool it.1) (evs_cmp (by dictfold_shaped) (evs_item (by dictfold_shaped) (by dictfold_shaped) (itm_tup (nth_nat (i := 1) rfl) (by show 2 < 2 ^ 62; decide))) (by dictfold_shaped2) rfl)
    (evs_item (by dictfold_shaped) (by dictfold_shaped) (itm_tup (nth_nat (i := 0) rfl) (by show 2 < 2 ^ 62; decide))) cmp_ne_bool rfl) ⟨rfl, List.Sublist.refl _⟩
end
end
section
section
variable {T : TopCx} {S : FnS} {C : Cx T S} {σ σ' : Sig} {μ μ' : Sto} {a : Addr} {a' : AV}
theorem slc_1n {α : Type} (x : α) (r : List α) : slc (x :: r) (some 1) none = r := by
  have h : clipAt (x :: r).length 1 = 1 := by have := clipAt_cast (x :: r).length 1; simp at this ⊢; lia
  unfold slc slo shi
  simp only [Option.elim, h]
  simp
theorem isNone_item {σ : Sig} {it : Item} : Cmp C .Is (itemAV it) .none σ μ it.isNone := by
  cases it with
  | none => exact cmp_is_none (a := .none) trivial
  | some p => exact cmp_is_none (a := .tup [.bool p.1, .str p.2]) trivial
noncomputable abbrev S_takes : FnS := { names := [("items", false), ("name", false)], globs := [("_law_takes", .ref 211), ("_law_means", .ref 204)] }
theorem slcl {i j : Option Int} {l r : List AV} (h : LstAt μ a' l) (e : slc l i j = r) (hl : l.length < 2 ^ 24) : Slc C a' i j σ μ (.lst r) := e ▸ slc_list h (by unfold sizeLine; lia)
theorem slcs {i j : Option Int} {x y : List Nat} (e : slc x i j = y) (hl : x.length < 2 ^ 24) : Slc C (.str x) i j σ μ (.str y) := e ▸ slc_str (by unfold sizeLine; lia)
theorem ev_nil {pos : Pos} : EvD C (.List [] pos) σ μ (.lst []) := ev_list evl_nil
theorem fn_takes : ∀ (k : Nat) (its : List Item) (name : List Nat) (μ : Sto), its.length + name.length ≤ k → k < 1000 → Fn T (.ref 211) (k + 2 + 1) [.lst (its.map itemAV), .str name] μ (.bool (takes its name)) μ := by
  intro k
  induction k with
  | zero =>
    intro its name μ hk _
    have h1 : its = [] := List.length_eq_zero_iff.mp (by room)
    have h2 : name = [] := List.length_eq_zero_iff.mp (by room)
    subst h1 h2
    refine fn_intro (S := S_takes) (σ₀ := [("items", .lst []), ("name", .str [])]) (i := 33) (params := ["items", "name"])
      (by decide) (by decide +kernel) rfl (by simp) rfl fun nd C hC hI => ?_
    refine ex_if (b := true) (evt_cmp (by dictfold_shaped) ev_nil (cmp_eq_nil (l := []) (LstAt.lst _) (by decide)) rfl) (fun _ => ?_) fun q => nomatch q
    exact ex_ret (a := .bool true) (evs_cmp (by dictfold_shaped) (ev_str (y := []) (by decide +kernel)) (by dictfold_shaped2) rfl) ⟨by simp [takes], List.Sublist.refl _⟩
  | succ k ih =>
    intro its name μ hk hk2
    refine fn_intro (S := S_takes) (σ₀ := [("items", .lst (its.map itemAV)), ("name", .str name)]) (i := 33) (params := ["items", "name"])
      (by decide) (by decide +kernel) rfl (by simp) rfl fun nd C hC hI => ?_
    cases its with
    | nil =>
      refine ex_if (b := true) (evt_cmp (by dictfold_shaped) ev_nil (cmp_eq_nil (l := ([] : List Item).map itemAV) (LstAt.lst _) (by decide)) rfl) (fun _ => ?_) fun q => nomatch q
      refine ex_ret (evs_cmp (by dictfold_shaped) (ev_str (y := []) (by decide +kernel)) (by dictfold_shaped2) rfl) ⟨?_, List.Sublist.refl _⟩
      cases name <;> simp [takes]
    | cons it its =>
      have hll : (it :: its).length < 1000 := by simp at hk ⊢; lia
      have hnl : name.length < 1000 := by room
      refine ex_if (b := false) (evt_cmp (by dictfold_shaped) ev_nil (cmp_eq_nil (l := (it :: its).map itemAV) (LstAt.lst _) (by simp at hll ⊢; lia)) rfl) (fun q => nomatch q) fun _ => ex_nil ?_
      refine ex_if (b := it.isNone) (evt_cmp (a := itemAV it) (evs_item (by dictfold_shaped) (by dictfold_shaped) (itm_map (i := 0) (LstAt.lst _) rfl (by room))) (by dictfold_shaped) isNone_item rfl) (fun hb => ?_) fun hb => ex_nil ?_
      · have hit : it = none := by simpa using hb
        subst hit
        refine ex_ret (a := .bool (takes (none :: its) name)) (ev_boolop (cho (x := takes its name) (evs_call (as := [.lst (its.map itemAV), .str name]) (by dictfold_shaped) (evl_cons (evs_slice (by dictfold_shaped) (evo_some (by dictfold_shaped)) evo_none (slcl (l := (none :: its).map itemAV) (LstAt.lst _) (slc_1n _ _) (by simp at hll ⊢; lia))) (by dictfold_shaped)) (by dictfold_shaped2)
          (ca_fn (ih its name μ (by simp at hk; lia) (by room)) (by room)) (fun _ _ => rfl)) (fun q => ?_) fun q => evch_one ?_)) ⟨rfl, List.Sublist.refl _⟩
        · cases name <;> simp [takes, q]
        · cases name with
          | nil => exact ev_boolop (cha (x := false) (evs_cmp (by dictfold_shaped) (ev_str (y := []) (by decide +kernel)) (by dictfold_shaped2) rfl) (fun _ => by simp [takes]; exact q) fun q => nomatch q)
          | cons c name =>
            refine ev_boolop (cha (x := true) (evs_cmp (by dictfold_shaped) (ev_str (y := []) (by decide +kernel)) (by dictfold_shaped2) rfl) (fun q => nomatch q) fun _ => evch_one ?_)
            have e : takes (none :: its) (c :: name) = takes (none :: its) name := by simp [takes, q]
            rw [e]
            refine evs_call (as := [.lst ((none :: its).map itemAV), .str name]) (by dictfold_shaped) (evl_cons (by dictfold_shaped) (evl_cons (evs_slice (by dictfold_shaped) (evo_some (by dictfold_shaped)) evo_none (slcs (slc_1n _ _) (by room))) evl_nil)) (by dictfold_shaped2)
              (ca_fn (ih (none :: its) name μ (by simp at hk ⊢; lia) (by room)) (by room)) (fun _ _ => rfl)
      · cases it with
        | none => cases hb
        | some it =>
          refine ex_ret (a := .bool (takes (some it :: its) name)) (ev_boolop ?_) ⟨rfl, List.Sublist.refl _⟩
          cases name with
          | nil => exact cha (x := false) (evs_cmp (by dictfold_shaped) (ev_str (y := []) (by decide +kernel)) (by dictfold_shaped2) rfl) (fun _ => by simp [takes]) fun q => nomatch q
          | cons c name =>
            refine cha (x := true) (evs_cmp (by dictfold_shaped) (ev_str (y := []) (by decide +kernel)) (by dictfold_shaped2) rfl) (fun q => nomatch q) fun _ => ?_
            refine cha (x := means it c) (evs_call (as := [itemAV (some it), .str [c]]) (by dictfold_shaped) (evl_cons (evs_item (by dictfold_shaped) (by dictfold_shaped) (itm_map (i := 0) (LstAt.lst _) rfl (by room))) (evl_cons (evs_item (by dictfold_shaped) (by dictfold_shaped) (itm_str (nth_nat (i := 0) rfl) (by room))) evl_nil)) (by dictfold_shaped2)
              (ca_fn (fn_means (d := 0)) (by room)) (fun _ _ => rfl)) (fun q => by simp [takes, q]) fun q => evch_one ?_
            have e : takes (some it :: its) (c :: name) = takes its name := by simp [takes, q]
            rw [e]
            refine evs_call (as := [.lst (its.map itemAV), .str name]) (by dictfold_shaped) (evl_cons (evs_slice (by dictfold_shaped) (evo_some (by dictfold_shaped)) evo_none (slcl (l := (some it :: its).map itemAV) (LstAt.lst _) (slc_1n _ _) (by simp at hll ⊢; lia)))
              (evl_cons (evs_slice (by dictfold_shaped) (evo_some (by dictfold_shaped)) evo_none (slcs (slc_1n _ _) (by room))) evl_nil)) (by dictfold_shaped2)
              (ca_fn (ih its name μ (by simp at hk ⊢; lia) (by room)) (by room)) (fun _ _ => rfl)
end
end
section
section
variable {T : TopCx} {S : FnS} {C : Cx T S} {σ σ' : Sig} {μ μ' : Sto} {a : Addr} {a' : AV}
noncomputable abbrev S_pieces : FnS := { names := [], globs := [] }
set_option maxHeartbeats 1000000 in
theorem fn_pieces {d : Nat} : Fn T (.ref 125) (d + 1) [] μ (.lst (pcs.map pieceAV)) μ := by
  refine fn_intro (S := S_pieces) (σ₀ := []) (i := 19) (params := []) (by decide) (by decide +kernel) rfl (by simp) rfl fun nd C hC hI => ?_
  refine ex_ret (a := .lst (pcs.map pieceAV)) ?_ ⟨rfl, List.Sublist.refl _⟩
  simp only [pcs, List.map_cons, List.map_nil, pieceAV, itemAV]
  dictfold_shaped
noncomputable def digs (n : Nat) : List Nat := [n / 24 % 22, n / 528 % 22, n / 11616 % 22]
noncomputable def itms (n : Nat) : List (List Nat × Item) := ((digs n).filter (· < 20)).map fun k => pcs.getD k ([], none)
noncomputable abbrev S_items : FnS := { names := [("x", false), ("digits", false)], globs := [] }
noncomputable abbrev S_itemsC : FnS := { names := [("digit", false)], globs := [("_law_pieces", .ref 125)], ro := true }
set_option maxHeartbeats 1000000 in
theorem fn_items {d n : Nat} (hd1 : 1 ≤ d) (hn : n < 2 ^ 40) : Fn T (.ref 130) (d + 1) [.int n] μ (.lst ((itms n).map pieceAV)) μ := by
  refine fn_intro (S := S_items) (σ₀ := [("x", .int n), ("digits", .un)]) (i := 20) (params := ["x"]) (by decide) (by decide +kernel) rfl (by simp) rfl fun nd C hC hI => ?_
  have hdC := Nat.le_trans hd1 (Nat.le_of_eq hC.symm)
  refine ex_assign (a := .lst ((digs n).map fun (k : Nat) => .int k)) (show EvD C _ _ _ (.lst [.int ((n / 24 % 22 : Nat) : Int), .int ((n / 528 % 22 : Nat) : Int), .int ((n / 11616 % 22 : Nat) : Int)]) from (by dictfold_shaped)) (by dictfold_puts) ?_
  have e : (itms n).map pieceAV = ((digs n).filter fun k => decide (k < 20)).map fun k => pieceAV (pcs.getD k ([], none)) := by simp [itms, Function.comp_def]
  refine ex_ret (a := .lst ((itms n).map pieceAV)) ?_ ⟨rfl, List.Sublist.refl _⟩
  rw [e]
  refine ev_of_evn (evn_comp S_itemsC [("digit", .un)] (evi_list (by dictfold_shaped)) (by decide +kernel) rfl (by sl_keep) (by have := List.length_filter_le (fun k => decide (k < 20)) (digs n); simp [digs] at this ⊢; unfold sizeLine; lia) fun C' hd => ?_)
  refine crun_map _ _ _ _ fun k hk => ?_
  have hkb : k < 22 := by simp [digs] at hk; lia
  refine asg_local (by decide) (by dictfold_puts) ⟨rfl, .un .nil, evts_one (evt_cmp (b := .int 20) (by dictfold_shaped) (by dictfold_shaped) (cmp_ltN (n := 20)) rfl), fun hp => ?_⟩
  have hk20 : k < 20 := of_decide_eq_true hp
  refine evs_item (a := .lst (pcs.map pieceAV)) (evs_call (by dictfold_shaped) evl_nil (by dictfold_shaped2) (ca_fn (fn_pieces (d := 0)) (by room)) (fun _ _ => rfl)) (by dictfold_shaped) (itm_list (LstAt.lst _) (nth_nat ?_) (by simp [pcs]))
  have hl : pcs.length = 20 := rfl
  rw [List.getElem?_map, List.getD_eq_getElem?_getD]
  rw [List.getElem?_eq_getElem (by room)]
  rfl
noncomputable def nch (k : Nat) : Nat := [97, 94, 33, 92].getD k 0
noncomputable def nam (n : Nat) : List Nat := (List.range (n / 255552 % 4)).map fun k => nch (n / 255552 / 4 ^ (k + 1) % 4)
noncomputable abbrev S_name : FnS := { names := [("x", false), ("y", true)], globs := [("range", .type "range")] }
noncomputable abbrev S_nameC : FnS := { names := [("k", false), ("y", true)], globs := [], ro := true }
theorem rng_small {n : Int} (h : 0 ≤ n) (h2 : n < 2 ^ 62) : Builtin.Range.small 0 n 1 = true := by
  unfold Builtin.Range.small Builtin.Range.rangeFitsLong
  rw [size01 h]
  simp
  lia
theorem rngs_nat (n : Nat) : rngs 0 1 n = (List.range n).map fun (k : Nat) => .int (k : Int) := by simp [rngs]
set_option maxHeartbeats 1000000 in
theorem fn_name {d n : Nat} (hn : n < 2 ^ 40) : Fn T (.ref 135) (d + 1) [.int n] μ (.str (nam n)) μ := by
  refine fn_intro (S := S_name) (σ₀ := [("x", .int n), ("y", .un)]) (i := 21) (params := ["x"]) (by decide) (by decide +kernel) rfl (by simp) rfl fun nd C hC hI => ?_
  refine ex_assign (a := .int ((n / 255552 : Nat) : Int)) (by dictfold_shaped) (by dictfold_puts) ?_
  generalize hy : n / 255552 = y
  have hyb : y < 2 ^ 30 := by room
  have hlen : (nam n).length < 4 := by simp [nam]; lia
  have hj : joinF [] ((nam n).map fun c => [c]) = nam n := by
    rw [joinF_nil]
    generalize nam n = l
    induction l with
    | nil => rfl
    | cons x l ih => simp [ih]
  have e : (((nam n).map fun c => [c]).map AV.str) = (List.range (y % 4)).map fun k => AV.str [nch (y / 4 ^ (k + 1) % 4)] := by simp [nam, hy, Function.comp_def]
  refine ex_ret (a := .str (nam n)) (evs_meth (a := .str []) (as := [.lst (((nam n).map fun c => [c]).map AV.str)]) (ev_str (y := []) (by decide +kernel)) isOf_str m_join (evl_cons ?_ evl_nil) (ca_join (LstAt.lst _) hj (by decide) ?_)) ⟨rfl, List.Sublist.refl _⟩
  · rw [e]
    refine ev_of_evn (evn_comp S_nameC [("k", .un), ("y", .int y)] (evi_rng (n := y % 4) (evs_call (by dictfold_shaped) (evl_cons (a := .int ((y % 4 : Nat) : Int)) (by dictfold_shaped) evl_nil) (by dictfold_shaped2) ca_range1) (rng_small (by room) (by room)) (size01 (by room))) (by decide +kernel) rfl (by sl_keep) (by simp; unfold sizeLine; lia) fun C' hd => ?_)
    rw [rngs_nat]
    refine crun_all _ _ _ fun k hk => ?_
    have hkb : k < 4 := by simp at hk; lia
    refine asg_local (by decide) (by dictfold_puts) ⟨rfl, .un (Wk.refl _), ?_⟩
    refine evs_item (a := .str [97, 94, 33, 92]) (i := ((y / 4 ^ (k + 1) % 4 : Nat) : Int)) (ev_str (y := [97, 94, 33, 92]) (by decide +kernel)) (evs_bin (evs_bin (by dictfold_shaped) (evs_bin (b := .int ((k + 1 : Nat) : Int)) (c := .int ((4 ^ (k + 1) : Nat) : Int)) (by dictfold_shaped) (by dictfold_shaped) (op_powN (by room) (by decide))) (op_fdivN (by apply Nat.pow_pos; decide) (by room) ?_)) (by dictfold_shaped) (op_modN (n := 4) (by decide))) (itm_str (nth_nat ?_) (by decide))
    · have : 4 ^ (k + 1) ≤ 4 ^ 4 := Nat.pow_le_pow_right (by decide) (by room)
      lia
    · have : y / 4 ^ (k + 1) % 4 < 4 := Nat.mod_lt _ (by decide)
      generalize y / 4 ^ (k + 1) % 4 = m at this
      match m, this with
      | 0, _ => rfl
      | 1, _ => rfl
      | 2, _ => rfl
      | 3, _ => rfl
  · have : ((nam n).map fun c => [c]).map (·.length) = (nam n).map fun _ => 1 := by simp [Function.comp_def]
    rw [this, sum_ones]; simp; lia
end
end
section
section
variable {T : TopCx} {S : FnS} {C : Cx T S} {σ σ' : Sig} {μ μ' : Sto} {a : Addr} {a' : AV}
noncomputable def put (row : List Ru) (rule : Ru) : List Ru := row.filter (fun x => rlt x rule) ++ [rule] ++ row.filter (fun x => rlt rule x)
noncomputable abbrev S_put : FnS := { names := [("row", false), ("rule", true), ("ahead", false)], globs := [] }
noncomputable abbrev S_putC : FnS := { names := [("one", false), ("rule", true)], globs := [], ro := true }
set_option maxHeartbeats 1000000 in
theorem fn_put {d : Nat} {row : List Ru} {rule : Ru} (hne : ∀ x ∈ row, x.n ≠ rule.n) (hl : row.length < 1000) : Fn T (.ref 216) (d + 1) [.lst (row.map Ru.av), rule.av] μ (.lst ((put row rule).map Ru.av)) μ := by
  refine fn_intro (S := S_put) (σ₀ := [("row", .lst (row.map Ru.av)), ("rule", rule.av), ("ahead", .un)]) (i := 34) (params := ["row", "rule"]) (by decide) (by decide +kernel) rfl (by simp) rfl fun nd C hC hI => ?_
  have two : ∀ {C' : Cx T S_putC} {x : Ru} {y : Str} {p p' p'' p3 : Pos} {k : Nat} {σ : Sig} {μ' : Sto}, (y, x.av) ∈ σ → EvD C' (.Subscript (.Name y p) (.Slice none (some (.Constant (.int 2) k p3)) none p'') p') σ μ' (.tup [.int x.r, .int x.n]) := fun h =>
    evs_slice (a := _) (ev_name h rfl) evo_none (evo_some ev_int) slc_tup2
  have hf : ∀ p : Ru → Bool, (row.filter p).length < 1000 := fun p => Nat.lt_of_le_of_lt (List.length_filter_le _ _) hl
  refine ex_assignU (μ₂ := μ) (out := (row.filter fun x => rlt x rule).map Ru.av) S_putC [("one", .un), ("rule", rule.av)] (evi_list (by dictfold_shaped)) (by decide +kernel) rfl (by sl_keep) (by have := hf (fun x => rlt x rule); simp; unfold sizeLine; lia) (fun C' hd => ?_) (fun l => (by dictfold_puts)) (fun l => ?_) (by decide) rfl (by decide +kernel)
  · refine crun_map _ _ _ _ fun x hx => ?_
    exact asg_local (by decide) (by dictfold_puts) ⟨rfl, .un (Wk.refl _), evts_one (evt_cmp (two (by dictfold_has)) (two (by dictfold_has)) (cmp_ltr (.inr (hne x hx))) rfl), fun hp => (by dictfold_shaped)⟩
  · have e : (put row rule).map Ru.av = ((row.filter fun x => rlt x rule).map Ru.av ++ [rule.av]) ++ (row.filter fun x => rlt rule x).map Ru.av := by simp [put]
    refine ex_ret (a := .lst ((put row rule).map Ru.av)) (μ₁ := (l, (row.filter fun x => rlt x rule).map Ru.av) :: μ) ?_ ⟨rfl, .cons _ (List.Sublist.refl _)⟩
    rw [e]
    refine evs_bin (a := .lst ((row.filter fun x => rlt x rule).map Ru.av ++ [rule.av])) (b := .lst ((row.filter fun x => rlt rule x).map Ru.av)) (evs_bin (a := .own l) (b := .lst [rule.av]) (by dictfold_shaped) (by dictfold_shaped) (op_addl (LstAt.own (.head _)) (LstAt.lst _) (by have := hf (fun x => rlt x rule); simp; unfold sizeLine; lia))) ?_
      (op_addl (LstAt.lst _) (LstAt.lst _) (by have := hf (fun x => rlt x rule); have := hf (fun x => rlt rule x); simp; unfold sizeLine; lia))
    refine ev_of_evn (evn_comp S_putC [("one", .un), ("rule", rule.av)] (evi_list (by dictfold_shaped)) (by decide +kernel) rfl (by sl_keep) (by have := hf (fun x => rlt rule x); simp; unfold sizeLine; lia) fun C' hd => ?_)
    refine crun_map _ _ _ _ fun x hx => ?_
    exact asg_local (by decide) (by dictfold_puts) ⟨rfl, .un (Wk.refl _), evts_one (evt_cmp (two (by dictfold_has)) (two (by dictfold_has)) (cmp_gtr (.inr (hne x hx))) rfl), fun hp => (by dictfold_shaped)⟩
end
end
section
section
variable {T : TopCx} {S : FnS} {C : Cx T S} {σ σ' : Sig} {μ μ' : Sto} {a : Addr} {a' : AV}
structure Pr where
  r : Nat
  n : Nat
  its : List Item
noncomputable def Pr.ru (p : Pr) : Ru := ⟨p.r, p.n, .lst (p.its.map itemAV)⟩
noncomputable def prule (x k : Nat) : Pr := ⟨x / 8 % 3, k, (itms x).map (·.2)⟩
noncomputable def plt (a b : Pr) : Bool := decide (a.r < b.r ∨ (a.r = b.r ∧ a.n < b.n))
noncomputable def pput (row : List Pr) (p : Pr) : List Pr := row.filter (fun x => plt x p) ++ [p] ++ row.filter (fun x => plt p x)
noncomputable def ptop : List Pr → Int
  | [] => -1
  | p :: _ => p.n
noncomputable def takers (row : List Pr) (name : List Nat) : List Nat := (row.filter fun p => takes p.its name).map (·.n)
noncomputable def fst1 : List Nat → Int
  | [] => -1
  | n :: _ => n
noncomputable def pstep (row : List Pr) (k x : Nat) : AV × List Pr :=
  if x % 8 = 6 then (.int (fst1 (takers row (nam x))), row)
  else if x % 8 = 7 then (.none, row.filter fun q => !((takers row (nam x)).any (· == q.n)))
  else if x % 8 = 3 then match row with
    | [] => (.int (-1), [])
    | q :: r => (.int q.n, r)
  else if x % 8 = 4 then match row with
    | [] => (.int (-1), [])
    | q :: r => (.int q.n, pput r (prule x k))
  else if x % 8 = 5 then match pput row (prule x k) with
    | [] => (.none, [])
    | q :: r => (.int q.n, r)
  else (.none, pput row (prule x k))
noncomputable def fr : List Nat := [40, 63, 115, 58, 41, 92, 90]
noncomputable def prun : List Nat → Nat → List Pr → List AV × List Pr
  | [], _, row => ([], row)
  | x :: xs, k, row => ((.tup [.str fr, (pstep row k x).1, .int (ptop (pstep row k x).2)]) :: (prun xs (k + 1) (pstep row k x).2).1, (prun xs (k + 1) (pstep row k x).2).2)
noncomputable def names4 : List (List Nat) := [[], [97], [94, 97], [33, 92, 97]]
noncomputable def pend (row : List Pr) : List AV := [.lst (names4.map fun n => .int (fst1 (takers row n))), .lst (row.map fun p => .int p.n)]
theorem plt_ru (a b : Pr) : rlt a.ru b.ru = plt a b := by
  show decide ((a.r : Int) < (b.r : Int) ∨ ((a.r : Int) = (b.r : Int) ∧ (a.n : Int) < (b.n : Int))) = decide (a.r < b.r ∨ (a.r = b.r ∧ a.n < b.n))
  rw [Bool.eq_iff_iff, decide_eq_true_eq, decide_eq_true_eq]
  lia
theorem put_ru (row : List Pr) (p : Pr) : put (row.map Pr.ru) p.ru = (pput row p).map Pr.ru := by
  unfold put pput
  have h1 : (row.map Pr.ru).filter (fun x => rlt x p.ru) = (row.filter fun x => plt x p).map Pr.ru := by rw [List.filter_map]; congr 1; apply List.filter_congr; intro x _; exact plt_ru x p
  have h2 : (row.map Pr.ru).filter (fun x => rlt p.ru x) = (row.filter fun x => plt p x).map Pr.ru := by rw [List.filter_map]; congr 1; apply List.filter_congr; intro x _; exact plt_ru p x
  rw [h1, h2]; simp
theorem pput_len (row : List Pr) (p : Pr) : (pput row p).length ≤ 2 * row.length + 1 := by
  have h1 := List.length_filter_le (fun x => plt x p) row
  have h2 := List.length_filter_le (fun x => plt p x) row
  simp [pput]; lia
structure RowOk (row : List Pr) (k : Nat) : Prop where
  n : ∀ p ∈ row, p.n < k
  its : ∀ p ∈ row, p.its.length ≤ 3
  len : row.length ≤ k
  nd : (row.map (·.n)).Nodup
theorem itms_len (x : Nat) : (itms x).length ≤ 3 := by
  have := List.length_filter_le (fun k => decide (k < 20)) (digs x)
  simp [itms, digs] at this ⊢; lia
theorem nam_len (x : Nat) : (nam x).length < 4 := by simp [nam]; lia
noncomputable abbrev prAV (p : Pr) : AV := .tup [.int p.r, .int p.n, .lst (p.its.map itemAV)]
noncomputable abbrev S_plain : FnS := { names := [("deeds", false), ("row", true), ("log", false), ("number", false), ("x", true), ("kind", false), ("rule", false), ("answer", false), ("takers", true)], globs := [("range", .type "range"), ("len", .builtin "len"), ("_law_items", .ref 130), ("_law_put", .ref 216)] }
noncomputable abbrev S_told : FnS := { names := [("piece", false), ("told", false)], globs := [], ro := true }
noncomputable abbrev S_tk : FnS := { names := [("one", false), ("x", true)], globs := [("_law_takes", .ref 211), ("_law_name", .ref 135)], ro := true }
noncomputable abbrev S_str : FnS := { names := [("one", false), ("takers", true)], globs := [], ro := true }
noncomputable abbrev S_one : FnS := { names := [("one", false)], globs := [], ro := true }
noncomputable abbrev S_nms : FnS := { names := [("numbers", false)], globs := [], ro := true }
noncomputable abbrev S_out4 : FnS := { names := [("name", true), ("row", true)], globs := [], ro := true, own := ["name"] }
noncomputable abbrev S_in4 : FnS := { names := [("one", false), ("name", true)], globs := [("_law_takes", .ref 211)], ro := true }
theorem takers_av (row : List Pr) (nm : List Nat) : ((takers row nm).map fun (n : Nat) => AV.int n) = (row.filter fun p => takes p.its nm).map fun p => AV.int p.n := by simp [takers, Function.comp_def]
theorem takers_len (row : List Pr) (nm : List Nat) : (takers row nm).length ≤ row.length := by simp [takers]; exact List.length_filter_le _ _
noncomputable def sgP (ds : List Nat) (l : Addr) (row : List Pr) (v1 v2 v3 v4 v5 v6 : AV) : Sig :=
  [("deeds", .lst (ds.map fun (n : Nat) => .int n)), ("row", .lst (row.map prAV)), ("log", .own l), ("number", v1), ("x", v2), ("kind", v3), ("rule", v4), ("answer", v5), ("takers", v6)]
inductive WPl (ds : List Nat) (l : Addr) (μ : Sto) (as : List AV) : Sig → Sto → Prop
  | mk (k : Nat) (pre xs : List Nat) (row : List Pr) (lg : List AV) (v1 v2 v3 v4 v5 v6 : AV) (has : as = (List.range' k xs.length).map (fun (i : Nat) => AV.int i)) (hds : ds = pre ++ xs) (hpre : pre.length = k) (ok : RowOk row k)
      (hlg : lg.length = k) (h1 : lg ++ (prun xs k row).1 = (prun ds 0 []).1) (h2 : (prun xs k row).2 = (prun ds 0 []).2) : WPl ds l μ as (sgP ds l row v1 v2 v3 v4 v5 v6) ((l, lg) :: μ)
theorem plain_tail {C : Cx T S_plain} (hI : interactive C.env = false) {ds : List Nat} {l : Addr} {row : List Pr} {v1 v2 v3 v4 ans v6 : AV} {lg : List AV} {K : AF → Sig → Sto → Prop} (ha : ans.isUn = false) (hlr : row.length < 1000) (hlg : lg.length < 1000)
    (h : K .next (sgP ds l row v1 v2 v3 v4 ans v6) ((l, lg ++ [.tup [.str fr, ans, .int (ptop row)]]) :: μ)) :
    Ex C ((forB 35 2).drop 5) (sgP ds l row v1 v2 v3 v4 ans v6) ((l, lg) :: μ) K := by
  unfold sgP at h ⊢
  refine ex_expr (evs_meth (a := .own l) (as := [.tup [.str fr, ans, .int (ptop row)]]) (by dictfold_shaped) (isOf_list (LstAt.own (.head _))) m_append (evl_cons (ev_tuple (evl_cons (by dictfold_shaped) (evl_cons (ev_name (by dictfold_has) ha) (evl_cons ?_ evl_nil)))) evl_nil) (ca_append (.head _) .head (by unfold sizeLine; lia))) (ex_nil h) hI
  refine evs_ife (b := !row.isEmpty) (evt_cmp (by dictfold_shaped) ev_nil (by have := cmp_ne_nil (C := C) (σ := [("deeds", .lst (ds.map fun (n : Nat) => .int n)), ("row", .lst (row.map prAV)), ("log", .own l), ("number", v1), ("x", v2), ("kind", v3), ("rule", v4), ("answer", ans), ("takers", v6)]) (μ := (l, lg) :: μ) (LstAt.lst (row.map prAV)) (by simp; lia); simpa using this) rfl) (fun q => ?_) fun q => ?_
  · cases row with
    | nil => cases q
    | cons p row => exact evs_item (a := prAV p) (evs_item (by dictfold_shaped) (by dictfold_shaped) (itm_map (i := 0) (LstAt.lst _) rfl (by room))) (by dictfold_shaped) (itm_tup (nth_nat (i := 1) rfl) (by show 3 < 2 ^ 62; decide))
  · cases row with
    | nil => exact ev_neg (by dictfold_shaped)
    | cons p row => cases q
theorem RowOk.next {row : List Pr} {k : Nat} (h : RowOk row k) : RowOk row (k + 1) := ⟨fun p hp => Nat.lt_succ_of_lt (h.n p hp), h.its, Nat.le_succ_of_le h.len, h.nd⟩
theorem RowOk.sub {row row' : List Pr} {k : Nat} (h : RowOk row k) (s : row'.Sublist row) : RowOk row' k := ⟨fun p hp => h.n p (s.subset hp), fun p hp => h.its p (s.subset hp), Nat.le_trans s.length_le h.len, (s.map _).nodup h.nd⟩
theorem prule_its (x k : Nat) : (prule x k).its.length ≤ 3 := by simp [prule]; exact itms_len x
theorem pput_perm {row : List Pr} {p : Pr} (h : ∀ q ∈ row, q.n ≠ p.n) : (pput row p).Perm (p :: row) := by
  unfold pput
  have h1 : row.filter (fun x => plt p x) = row.filter fun x => !plt x p := by
    apply List.filter_congr
    intro q hq
    have := h q hq
    unfold plt
    rw [Bool.eq_iff_iff]
    simp
    lia
  rw [h1]
  have h2 : (row.filter (fun x => plt x p) ++ [p] ++ row.filter fun x => !plt x p).Perm (p :: (row.filter (fun x => plt x p) ++ row.filter fun x => !plt x p)) := by
    rw [List.append_assoc]
    exact List.perm_middle
  exact h2.trans ((List.filter_append_perm _ _).cons p)
theorem fn_pput {d : Nat} {row : List Pr} {p : Pr} (hne : ∀ q ∈ row, q.n ≠ p.n) (hl : row.length < 1000) : Fn T (.ref 216) (d + 1) [.lst (row.map prAV), prAV p] μ (.lst ((pput row p).map prAV)) μ := by
  have := fn_put (T := T) (μ := μ) (d := d) (row := row.map Pr.ru) (rule := p.ru) (by
    intro x hx
    obtain ⟨q, hq, rfl⟩ := List.mem_map.mp hx
    have := hne q hq
    intro e
    have e' : (q.n : Int) = (p.n : Int) := e
    lia) (by simpa using hl)
  rw [put_ru, List.map_map, List.map_map] at this
  exact this
theorem RowOk.put {row : List Pr} {k x : Nat} (h : RowOk row k) : RowOk (pput row (prule x k)) (k + 1) := by
  have hp := pput_perm (row := row) (p := prule x k) fun q hq e => Nat.lt_irrefl k (by have := h.n q hq; rw [e] at this; exact this)
  refine ⟨fun p hpm => ?_, fun p hpm => ?_, ?_, ?_⟩
  · rcases List.mem_cons.mp (hp.subset hpm) with rfl | hm
    · exact Nat.lt_succ_self k
    · exact Nat.lt_succ_of_lt (h.n p hm)
  · rcases List.mem_cons.mp (hp.subset hpm) with rfl | hm
    · exact prule_its x k
    · exact h.its p hm
  · rw [hp.length_eq]; simp; exact h.len
  · refine ((hp.map _).nodup_iff).mpr ?_
    rw [List.map_cons, List.nodup_cons]
    refine ⟨fun q => ?_, h.nd⟩
    obtain ⟨q', hq, e⟩ := List.mem_map.mp q
    exact Nat.lt_irrefl k (by have := h.n q' hq; rw [e] at this; exact this)
set_option maxHeartbeats 4000000 in
theorem fn_plain {d : Nat} {ds : List Nat} (hd1 : 10 ≤ d) (hds : ∀ x ∈ ds, x < 2 ^ 40) (hl : ds.length ≤ 100) :
    Fn T (.ref 221) (d + 1) [.lst (ds.map fun (n : Nat) => .int n)] μ (.lst ((prun ds 0 []).1 ++ pend (prun ds 0 []).2)) μ := by
  refine fn_intro (S := S_plain) (σ₀ := [("deeds", .lst (ds.map fun (n : Nat) => .int n)), ("row", .un), ("log", .un), ("number", .un), ("x", .un), ("kind", .un), ("rule", .un), ("answer", .un), ("takers", .un)]) (i := 35) (params := ["deeds"]) (by decide) (by decide +kernel) rfl (by simp) rfl fun nd C hC hI => ?_
  have hdC := Nat.le_trans hd1 (Nat.le_of_eq hC.symm)
  refine ex_assign ev_nil (by dictfold_puts) ?_
  refine ex_assignN (evn_list evl_nil) (fun l => (by dictfold_puts)) fun l => ?_
  refine ex_for (as := (List.range' 0 ds.length).map fun (i : Nat) => .int i) (WPl ds l μ)
    (by
      have h : rngs 0 1 ds.length = (List.range' 0 ds.length).map fun (i : Nat) => .int i := by rw [rngs_nat, List.range_eq_range']
      rw [← h]
      exact evi_rng (n := ds.length) (evs_call (by dictfold_shaped) (evl_cons (a := .int (ds.length : Nat)) (evs_call (by dictfold_shaped) (by dictfold_shaped) (by dictfold_shaped2) (ca_lenm (LstAt.lst _) (by room)) (fun _ _ => rfl)) evl_nil) (by dictfold_shaped2) ca_range1 (fun _ _ => rfl)) (rng_small (by room) (by room)) (size01 (by room))) ?_ ?_ ?_
  · exact ⟨0, [], ds, [], [], _, _, _, _, _, _, rfl, rfl, rfl, ⟨by simp, by simp, by simp, by simp⟩, rfl, rfl, rfl⟩
  · rintro a as σ μ₁ ⟨k, pre, xs, row, lg, v1, v2, v3, v4, v5, v6, has, hds', hpre, ok, hlg, h1, h2⟩
    cases xs with
    | nil => cases has
    | cons x xs =>
      rw [List.length_cons, List.range'_succ, List.map_cons] at has
      cases has
      have hx : x < 2 ^ 40 := hds x (by rw [hds']; simp)
      have hk : k < 100 := by rw [hds'] at hl; simp at hl; lia
      have hget : (ds.map fun (n : Nat) => AV.int n)[k]? = some (.int x) := by rw [hds']; simp [← hpre]
      have hrl := ok.len
      have fin : ∀ (ans v4 v6 : AV) (row' : List Pr), pstep row k x = (ans, row') → RowOk row' (k + 1) → WPl ds l μ ((List.range' (k + 1) xs.length).map fun (i : Nat) => AV.int i) (sgP ds l row' (.int k) (.int x) (.int ((x % 8 : Nat) : Int)) v4 ans v6) ((l, lg ++ [.tup [.str fr, ans, .int (ptop row')]]) :: μ) := fun ans v4 v6 row' hp ok' =>
        ⟨k + 1, pre ++ [x], xs, row', _, _, _, _, _, _, _, rfl, by simp [hds'], by simp [hpre], ok', by simp [hlg], by
          rw [← h1]
          simp [prun, hp], by
          rw [← h2]
          simp [prun, hp]⟩
      unfold sgP
      refine asg_name (by dictfold_puts) ?_
      refine ex_let (a := .int x) (evs_item (by dictfold_shaped) (by dictfold_shaped) (itm_list (LstAt.lst _) (nth_nat hget) (by simp; lia))) (by dictfold_puts) ?_
      refine ex_let (a := .int ((x % 8 : Nat) : Int)) (by dictfold_shaped) (by dictfold_puts) ?_
      refine ex_let (a := .tup [.int ((x / 8 % 3 : Nat) : Int), .int k, .lst ((prule x k).its.map itemAV)]) ?_ (by dictfold_puts) ?_
      · refine ev_tuple (evl_cons (a := .int ((x / 8 % 3 : Nat) : Int)) (by dictfold_shaped) (evl_cons (by dictfold_shaped) (evl_cons (a := .lst ((prule x k).its.map itemAV)) ?_ evl_nil)))
        have e : (prule x k).its.map itemAV = (itms x).map fun p => itemAV p.2 := by simp [prule, Function.comp_def]
        rw [e]
        refine ev_of_evn (evn_comp S_told [("piece", .un), ("told", .un)] (evi_list (evs_call (by dictfold_shaped) (by dictfold_shaped) (by dictfold_shaped2) (ca_fn (fn_items (d := 1) (by room) hx) (by room)) (fun _ _ => rfl))) (by decide +kernel) rfl (by sl_keep) (by have := itms_len x; simp; unfold sizeLine; lia) fun C' hd => ?_)
        exact crun_all _ _ _ fun p hp => asg_pair (asg_local (by decide) (by dictfold_puts) (asg_local (by decide) (by dictfold_puts) ⟨rfl, .un (.un .nil), ev_name (by dictfold_has) (item_un _)⟩))
      refine ex_let (by dictfold_shaped) (by dictfold_puts) ?_
      have hkb : x % 8 < 8 := Nat.mod_lt _ (by decide)
      have hrl2 : row.length < 100 := by room
      have hlg2 : lg.length < 1000 := by room
      refine ex_if (b := decide (x % 8 = 6 ∨ x % 8 = 7)) (evt_bool (alo (evt_cmp (by dictfold_shaped) (by dictfold_shaped) (cmp_eqN (n := 6)) rfl) (fun q => by simp at q; simp [q]) fun q => alo (evt_cmp (by dictfold_shaped) (by dictfold_shaped) (cmp_eqN (n := 7)) rfl) (fun q => by simp at q; simp [q]) fun q2 => alf (by simp at q q2; simp [q, q2]))) (fun q => ?_) fun q => ?_
      · have hk67 : x % 8 = 6 ∨ x % 8 = 7 := of_decide_eq_true q
        refine ex_letC (μ₁ := (l, lg) :: μ) (a := .lst ((takers row (nam x)).map fun (n : Nat) => .int n)) ?_ (by dictfold_puts) ?_ (by decide)
        · rw [takers_av]
          refine ev_of_evn (evn_comp S_tk [("one", .un), ("x", .int x)] (evi_list (by dictfold_shaped)) (by decide +kernel) rfl (by sl_keep) (by have := List.length_filter_le (fun p => takes p.its (nam x)) row; simp; unfold sizeLine; lia) fun C' hd => ?_)
          refine crun_map _ _ _ _ fun p hp => asg_local (by decide) (by dictfold_puts) ⟨rfl, .un (Wk.refl _), evts_one (evt_val (a := .bool (takes p.its (nam x))) (evs_call (as := [.lst (p.its.map itemAV), .str (nam x)]) (by dictfold_shaped) (evl_cons (evs_item (a := prAV p) (by dictfold_shaped) (by dictfold_shaped) (itm_tup (nth_nat (i := 2) rfl) (by show 3 < 2 ^ 62; decide))) (evl_cons (evs_call (by dictfold_shaped) (by dictfold_shaped) (by dictfold_shaped2) (ca_fn (fn_name (d := 0) hx) (by room)) (fun _ _ => rfl)) evl_nil)) (by dictfold_shaped2)
            (ca_fn (fn_takes 6 p.its (nam x) _ (by have := ok.its p hp; have := nam_len x; lia) (by decide)) (by room)) (fun _ _ => rfl)) tru_bool (fun _ => rfl)), fun _ => evs_item (a := prAV p) (by dictfold_shaped) (by dictfold_shaped) (itm_tup (nth_nat (i := 1) rfl) (by show 3 < 2 ^ 62; decide))⟩
        have htl := takers_len row (nam x)
        refine ex_if (b := decide (x % 8 = 6)) (evt_cmp (by dictfold_shaped) (by dictfold_shaped) (cmp_eqN (n := 6)) rfl) (fun q6 => ?_) fun q6 => ?_
        · have h6 : x % 8 = 6 := of_decide_eq_true q6
          refine ex_let (a := .int (fst1 (takers row (nam x)))) (evs_ife (b := !(takers row (nam x)).isEmpty) (evt_cmp (b := .lst []) (a := .lst ((takers row (nam x)).map fun (n : Nat) => .int n)) (by dictfold_shaped) ev_nil (by have := fun σ => cmp_ne_nil (C := C) (σ := σ) (μ := (l, lg) :: μ) (LstAt.lst ((takers row (nam x)).map fun (n : Nat) => AV.int n)) (by simp; lia); simp only [List.isEmpty_map] at this; exact this _) rfl) (fun hb => ?_) fun hb => ?_) (by dictfold_puts) ?_
          · cases ht : takers row (nam x) with
            | nil => rw [ht] at hb; cases hb
            | cons t ts => exact evs_item (a := .lst ((t :: ts).map fun (n : Nat) => .int n)) (by dictfold_shaped) (by dictfold_shaped) (itm_map (i := 0) (g := t :: ts) (LstAt.lst _) rfl (by rw [ht] at htl; lia))
          · cases ht : takers row (nam x) with
            | nil => exact ev_neg (by dictfold_shaped)
            | cons t ts => rw [ht] at hb; cases hb
          · refine ex_nil (ex_nil (plain_tail hI rfl (by room) hlg2 ?_))
            exact fin _ _ _ _ (by simp [pstep, h6]) ok.next
        · have h7 : x % 8 = 7 := by simp at q6; lia
          refine ex_letC (μ₁ := (l, lg) :: μ) (a := .lst ((row.filter fun q => !((takers row (nam x)).any (· == q.n))).map prAV)) ?_ (by dictfold_puts) ?_ (by decide)
          · refine ev_of_evn (evn_comp S_str [("one", .un), ("takers", .lst ((takers row (nam x)).map fun (n : Nat) => .int n))] (evi_list (by dictfold_shaped)) (by decide +kernel) rfl (by sl_keep) (by have := List.length_filter_le (fun q : Pr => !((takers row (nam x)).any (· == q.n))) row; simp; unfold sizeLine; lia) fun C' hd => ?_)
            refine crun_map _ _ _ _ fun p hp => asg_local (by decide) (by dictfold_puts) ⟨rfl, .un (Wk.refl _), evts_one (evt_cmp (a := .int p.n) (b := .lst ((takers row (nam x)).map fun (n : Nat) => .int n)) (evs_item (a := prAV p) (by dictfold_shaped) (by dictfold_shaped) (itm_tup (nth_nat (i := 1) rfl) (by show 3 < 2 ^ 62; decide))) (by dictfold_shaped) ?_ rfl), fun _ => (by dictfold_shaped)⟩
            have := cmp_nin_ints (C := C') (σ := [("one", prAV p), ("takers", .lst ((takers row (nam x)).map fun (n : Nat) => .int n))]) (μ := (l, lg) :: μ) (i := (p.n : Int)) (l := (takers row (nam x)).map fun (n : Nat) => (n : Int))
            rw [List.map_map] at this
            have e : (((takers row (nam x)).map fun (n : Nat) => (n : Int)).any (· == (p.n : Int))) = (takers row (nam x)).any (· == p.n) := by
              rw [List.any_map]
              congr 1
              funext n
              simp only [Function.comp]
              rw [Bool.eq_iff_iff, beq_iff_eq, beq_iff_eq]
              lia
            rw [e] at this
            exact this
          · refine ex_nil (ex_nil (plain_tail hI rfl (by have := List.length_filter_le (fun q : Pr => !((takers row (nam x)).any (· == q.n))) row; lia) hlg2 ?_))
            exact fin _ _ _ _ (by simp [pstep, h7]) (ok.sub List.filter_sublist).next
      · have hk67 : ¬ (x % 8 = 6 ∨ x % 8 = 7) := of_decide_eq_false q
        have h34 : ∀ {σ : Sig} {p1 p2 p3 p4 p5 p6 p7 : Pos} {k1 k2 : Nat}, (Str.ofString "kind", AV.int ((x % 8 : Nat) : Int)) ∈ σ → EvB C (.BoolOp .Or [.Compare (.Name (Str.ofString "kind") p1) [.Eq] [.Constant (.int 3) k1 p2] p3, .Compare (.Name (Str.ofString "kind") p4) [.Eq] [.Constant (.int 4) k2 p5] p6] p7) σ ((l, lg) :: μ) (decide (x % 8 = 3 ∨ x % 8 = 4)) := fun hm =>
          evt_bool (alo (evt_cmp (ev_name hm rfl) (by dictfold_shaped) (cmp_eqN (n := 3)) rfl) (fun q => by simp at q; simp [q]) fun q => alo (evt_cmp (ev_name hm rfl) (by dictfold_shaped) (cmp_eqN (n := 4)) rfl) (fun q => by simp at q; simp [q]) fun q2 => alf (by simp at q q2; simp [q, q2]))
        have hre : ∀ {σ : Sig}, Cmp C .Eq (.lst (row.map prAV)) (.lst []) σ ((l, lg) :: μ) row.isEmpty := fun {σ} => by
          have := cmp_eq_nil (C := C) (σ := σ) (μ := (l, lg) :: μ) (LstAt.lst (row.map prAV)) (by simp; lia)
          simpa using this
        refine ex_if (b := decide (x % 8 = 3 ∨ x % 8 = 4) && row.isEmpty) (evt_bool (ala (h34 (by dictfold_has)) (fun q => by simp [q]) fun q => ala (evt_cmp (by dictfold_shaped) ev_nil hre rfl) (fun q2 => by simp [q2]) fun q2 => ale (by simp [q, q2]))) (fun q1 => ?_) fun q1 => ?_
        · have hh : (x % 8 = 3 ∨ x % 8 = 4) ∧ row.isEmpty = true := by simpa using q1
          have hrow : row = [] := by simpa using hh.2
          subst hrow
          refine ex_let (a := .int (-1)) (ev_neg (by dictfold_shaped)) (by dictfold_puts) ?_
          refine ex_nil (ex_nil (plain_tail hI rfl (by decide) hlg2 ?_))
          exact fin _ _ _ [] (by rcases hh.1 with e | e <;> simp [pstep, e]) ⟨by simp, by simp, by simp, by simp⟩
        · refine ex_if (b := decide (x % 8 = 3 ∨ x % 8 = 4)) (h34 (by dictfold_has)) (fun q2 => ?_) fun q2 => ?_
          · have hh : x % 8 = 3 ∨ x % 8 = 4 := of_decide_eq_true q2
            cases row with
            | nil => rw [q2] at q1; cases q1
            | cons p row =>
              refine ex_let (a := .int p.n) (evs_item (a := prAV p) (evs_item (a := .lst ((p :: row).map prAV)) (by dictfold_shaped) (by dictfold_shaped) (itm_map (i := 0) (LstAt.lst _) rfl (by room))) (by dictfold_shaped) (itm_tup (nth_nat (i := 1) rfl) (by show 3 < 2 ^ 62; decide))) (by dictfold_puts) ?_
              have hsl : ∀ {σ : Sig}, Slc C (.lst ((p :: row).map prAV)) (some 1) none σ ((l, lg) :: μ) (.lst (row.map prAV)) := fun {σ} => slcl (LstAt.lst _) (slc_1n _ _) (by simp at hrl2 ⊢; lia)
              have ok2 : RowOk row k := ok.sub (List.sublist_cons_self _ _)
              rcases hh with e | e
              · refine ex_let (a := .lst (row.map prAV)) (evs_ife (b := true) (evt_cmp (c := true) (by dictfold_shaped) (by dictfold_shaped) (cmp_eqB (n := 3) (by simp [e])) rfl) (fun _ => evs_slice (by dictfold_shaped) (evo_some (by dictfold_shaped)) evo_none hsl) fun q => nomatch q) (by dictfold_puts) ?_
                refine ex_nil (ex_nil (ex_nil (plain_tail hI rfl (by simp at hrl2; lia) hlg2 ?_)))
                exact fin _ _ _ row (by simp [pstep, e]) ok2.next
              · refine ex_let (a := .lst ((pput row (prule x k)).map prAV)) (evs_ife (b := false) (evt_cmp (c := false) (by dictfold_shaped) (by dictfold_shaped) (cmp_eqB (n := 3) (by simp [e])) rfl) (fun q => nomatch q) fun _ => evs_call (as := [.lst (row.map prAV), .tup [.int ((x / 8 % 3 : Nat) : Int), .int k, .lst ((prule x k).its.map itemAV)]]) (by dictfold_shaped) (evl_cons (evs_slice (by dictfold_shaped) (evo_some (by dictfold_shaped)) evo_none hsl) (by dictfold_shaped)) (by dictfold_shaped2)
                  (ca_fn (fn_pput (d := 0) (row := row) (p := prule x k) (fun q hq e => Nat.lt_irrefl k (by have := ok2.n q hq; rw [e] at this; exact this)) (by simp at hrl2; lia)) (by room)) (fun _ _ => rfl)) (by dictfold_puts) ?_
                refine ex_nil (ex_nil (ex_nil (plain_tail hI rfl (by have := pput_len row (prule x k); simp at hrl2; lia) hlg2 ?_)))
                exact fin _ _ _ _ (by simp [pstep, e]) ok2.put
          · have hh : ¬ (x % 8 = 3 ∨ x % 8 = 4) := of_decide_eq_false q2
            refine ex_let (a := .lst ((pput row (prule x k)).map prAV)) (evs_call (as := [.lst (row.map prAV), .tup [.int ((x / 8 % 3 : Nat) : Int), .int k, .lst ((prule x k).its.map itemAV)]]) (by dictfold_shaped) (by dictfold_shaped) (by dictfold_shaped2)
                  (ca_fn (fn_pput (d := 0) (row := row) (p := prule x k) (fun q hq e => Nat.lt_irrefl k (by have := ok.n q hq; rw [e] at this; exact this)) (by room)) (by room)) (fun _ _ => rfl)) (by dictfold_puts) ?_
            have hpl := pput_len row (prule x k)
            refine ex_if (b := decide (x % 8 = 5)) (evt_cmp (by dictfold_shaped) (by dictfold_shaped) (cmp_eqN (n := 5)) rfl) (fun q5 => ?_) fun q5 => ?_
            · have h5 : x % 8 = 5 := of_decide_eq_true q5
              cases hpp : pput row (prule x k) with
              | nil => simp [pput] at hpp
              | cons p r =>
                rw [hpp] at hpl
                refine ex_let (a := .int p.n) (evs_item (a := prAV p) (evs_item (a := .lst ((p :: r).map prAV)) (by dictfold_shaped) (by dictfold_shaped) (itm_map (i := 0) (LstAt.lst _) rfl (by lia))) (by dictfold_shaped) (itm_tup (nth_nat (i := 1) rfl) (by show 3 < 2 ^ 62; decide))) (by dictfold_puts) ?_
                refine ex_let (a := .lst (r.map prAV)) (evs_slice (a := .lst ((p :: r).map prAV)) (by dictfold_shaped) (evo_some (by dictfold_shaped)) evo_none (slcl (LstAt.lst _) (slc_1n _ _) (by simp at hpl ⊢; lia))) (by dictfold_puts) ?_
                refine ex_nil (ex_nil (ex_nil (ex_nil (plain_tail hI rfl (by simp at hpl; lia) hlg2 ?_))))
                exact fin _ _ _ r (by simp [pstep, h5, hpp]) ((hpp ▸ ok.put (x := x)).sub (List.sublist_cons_self _ _))
            · have h5 : x % 8 ≠ 5 := of_decide_eq_false q5
              refine ex_nil (ex_nil (ex_nil (ex_nil (plain_tail hI rfl (by room) hlg2 ?_))))
              exact fin _ _ _ _ (by simp only [pstep]; rw [if_neg (by room), if_neg (by room), if_neg (by room), if_neg (by room), if_neg h5]) ok.put
  · rintro σ μ₁ ⟨k, pre, xs, row, lg, v1, v2, v3, v4, v5, v6, has, hds', hpre, ok, hlg, h1, h2⟩
    cases xs with
    | cons x xs => rw [List.length_cons, List.range'_succ, List.map_cons] at has; cases has
    | nil =>
      have hk : k ≤ 100 := by rw [hds'] at hl; simp at hl; lia
      have hrl := ok.len
      have h1' : lg = (prun ds 0 []).1 := by simpa [prun] using h1
      have h2' : row = (prun ds 0 []).2 := h2
      unfold sgP
      refine ex_nil ?_
      refine ex_letC (μ₁ := (l, lg) :: μ) (a := .lst (names4.map fun n => .lst ((takers row n).map fun (m : Nat) => .int m))) ?_ (by dictfold_puts) ?_ (by decide)
      · refine ev_of_evn (evn_comp (tl := false) (as := names4.map .str) S_out4 [("name", .un), ("row", .lst (row.map prAV))] (evi_tup (show EvD C _ _ _ (.tup [.str [], .str [97], .str [94, 97], .str [33, 92, 97]]) from (by dictfold_shaped))) (by decide +kernel) rfl (by sl_keep) (by simp [names4]; unfold sizeLine; decide) fun C' hd => ?_)
        refine crun_all _ _ _ fun n hn => asg_cell (by decide) (by dictfold_puts) ⟨rfl, .un (Wk.refl _), ?_⟩
        have hnl : n.length ≤ 3 := by simp [names4] at hn; rcases hn with rfl | rfl | rfl | rfl <;> decide
        rw [takers_av]
        refine ev_of_evn (evn_comp S_in4 [("one", .un), ("name", .str n)] (evi_list (by dictfold_shaped)) (by decide +kernel) rfl (by sl_keep) (by have := List.length_filter_le (fun p => takes p.its n) row; simp; unfold sizeLine; lia) fun C'' hd'' => ?_)
        exact crun_map _ _ _ _ fun p hp => asg_local (by decide) (by dictfold_puts) ⟨rfl, .un (Wk.refl _), evts_one (evt_val (a := .bool (takes p.its n)) (evs_call (as := [.lst (p.its.map itemAV), .str n]) (by dictfold_shaped) (evl_cons (evs_item (a := prAV p) (by dictfold_shaped) (by dictfold_shaped) (itm_tup (nth_nat (i := 2) rfl) (by show 3 < 2 ^ 62; decide))) (by dictfold_shaped)) (by dictfold_shaped2)
            (ca_fn (fn_takes 6 p.its n _ (by have := ok.its p hp; lia) (by decide)) (by room)) (fun _ _ => rfl)) tru_bool (fun _ => rfl)), fun _ => evs_item (a := prAV p) (by dictfold_shaped) (by dictfold_shaped) (itm_tup (nth_nat (i := 1) rfl) (by show 3 < 2 ^ 62; decide))⟩
      · have hlg2 : lg.length < 1000 := by room
        refine ex_expr (evs_meth (μ₂ := (l, lg) :: μ) (a := .own l) (as := [.lst (names4.map fun n => .int (fst1 (takers row n)))]) (by dictfold_shaped) (isOf_list (LstAt.own (.head _))) m_append (evl_cons ?_ evl_nil) (ca_append (.head _) .head (by unfold sizeLine; lia))) ?_ hI
        · refine ev_of_evn (evn_comp S_nms [("numbers", .un)] (evi_list (by dictfold_shaped)) (by decide +kernel) rfl (by sl_keep) (by simp [names4]; unfold sizeLine; decide) fun C' hd => ?_)
          refine crun_all _ _ _ fun n hn => asg_local (by decide) (by dictfold_puts) ⟨rfl, .un .nil, ?_⟩
          have htl := takers_len row n
          refine evs_ife (b := !(takers row n).isEmpty) (evt_cmp (b := .lst []) (a := .lst ((takers row n).map fun (n : Nat) => .int n)) (by dictfold_shaped) ev_nil (by have := fun σ => cmp_ne_nil (C := C') (σ := σ) (μ := (l, lg) :: μ) (LstAt.lst ((takers row n).map fun (n : Nat) => AV.int n)) (by simp; lia); simp only [List.isEmpty_map] at this; exact this _) rfl) (fun hb => ?_) fun hb => ?_
          · cases ht : takers row n with
            | nil => rw [ht] at hb; cases hb
            | cons t ts => exact evs_item (a := .lst ((t :: ts).map fun (n : Nat) => .int n)) (by dictfold_shaped) (by dictfold_shaped) (itm_map (i := 0) (g := t :: ts) (LstAt.lst _) rfl (by rw [ht] at htl; lia))
          · cases ht : takers row n with
            | nil => exact ev_neg (by dictfold_shaped)
            | cons t ts => rw [ht] at hb; cases hb
        · refine ex_expr (evs_meth (μ₂ := (l, lg ++ [.lst (names4.map fun n => .int (fst1 (takers row n)))]) :: μ) (a := .own l) (as := [.lst (row.map fun p => .int p.n)]) (by dictfold_shaped) (isOf_list (LstAt.own (.head _))) m_append (evl_cons ?_ evl_nil) (ca_append (.head _) .head ?_)) ?_ hI
          · refine ev_of_evn (evn_comp S_one [("one", .un)] (evi_list (by dictfold_shaped)) (by decide +kernel) rfl (by sl_keep) (by simp; unfold sizeLine; lia) fun C' hd => ?_)
            exact crun_all _ _ _ fun p hp => asg_local (by decide) (by dictfold_puts) ⟨rfl, .un .nil, evs_item (a := prAV p) (by dictfold_shaped) (by dictfold_shaped) (itm_tup (nth_nat (i := 1) rfl) (by show 3 < 2 ^ 62; decide))⟩
          · unfold sizeLine; simp; lia
          · refine ex_freeze (by sl_close) (FzM.refl _ _ _) ?_
            refine ex_ret (by dictfold_shaped) ⟨?_, List.Sublist.refl _⟩
            rw [← h1', ← h2']
            simp [pend]
end
end
section
section
variable {T : TopCx} {S : FnS} {C : Cx T S} {σ σ' : Sig} {μ μ' : Sto} {a : Addr} {a' : AV}
noncomputable abbrev Rx := Bool × List (Nat × Nat)
noncomputable def rgAV (p : Nat × Nat) : AV := .tup [.str [p.1], .str [p.2]]
noncomputable def rxAV (p : Rx) : AV := .tup [.bool p.1, .lst (p.2.map rgAV)]
noncomputable def fitsR (it : Rx) (c : Nat) : Bool := (it.2.any fun p => decide (p.1 ≤ c) && decide (c ≤ p.2)) != it.1
theorem les_one {x y : Nat} : (!decide (([y] : List Nat) < [x])) = decide (x ≤ y) := by
  rw [Bool.eq_iff_iff]
  simp only [List.cons_lt_cons_iff, Bool.not_eq_true', decide_eq_false_iff_not, decide_eq_true_eq]
  simp
noncomputable abbrev S_sign : FnS := { names := [("text", false), ("k", false)], globs := [] }
theorem fn_sign1 {d : Nat} {text : List Nat} {k c : Nat} (h : text[k]? = some c) (hc : c ≠ 92) (hl : text.length < 2 ^ 20) : Fn T (.ref 142) (d + 1) [.str text, .int k] μ (.tup [.str [c], .int ((k + 1 : Nat) : Int)]) μ := by
  refine fn_intro (S := S_sign) (σ₀ := [("text", .str text), ("k", .int k)]) (i := 22) (params := ["text", "k"]) (by decide) (by decide +kernel) rfl (by simp) rfl fun nd C hC hI => ?_
  refine ex_if (b := false) (evt_cmp (evs_item (by dictfold_shaped) (by dictfold_shaped) (itm_str (nth_nat h) (by room))) (ev_str (y := [92]) (by decide +kernel)) (by have := cmp_eqs (C := C) (σ := [("text", .str text), ("k", .int k)]) (μ := μ) (x := [c]) (y := [92]); rw [show (([c] : List Nat) == [92]) = false by simp [hc]] at this; exact this) rfl) (fun q => nomatch q) fun _ => ex_nil ?_
  exact ex_ret (a := .tup [.str [c], .int ((k + 1 : Nat) : Int)]) (ev_tuple (evl_cons (evs_item (by dictfold_shaped) (by dictfold_shaped) (itm_str (nth_nat h) (by room))) (by dictfold_shaped))) ⟨rfl, List.Sublist.refl _⟩
theorem fn_sign2 {d : Nat} {text : List Nat} {k c : Nat} (h : text[k]? = some 92) (h2 : text[k + 1]? = some c) (hl : text.length < 2 ^ 20) : Fn T (.ref 142) (d + 1) [.str text, .int k] μ (.tup [.str [c], .int ((k + 2 : Nat) : Int)]) μ := by
  refine fn_intro (S := S_sign) (σ₀ := [("text", .str text), ("k", .int k)]) (i := 22) (params := ["text", "k"]) (by decide) (by decide +kernel) rfl (by simp) rfl fun nd C hC hI => ?_
  refine ex_if (b := true) (evt_cmp (evs_item (by dictfold_shaped) (by dictfold_shaped) (itm_str (nth_nat h) (by room))) (ev_str (y := [92]) (by decide +kernel)) (by have := cmp_eqs (C := C) (σ := [("text", .str text), ("k", .int k)]) (μ := μ) (x := [92]) (y := [92]); exact this) rfl) (fun _ => ?_) (fun q => nomatch q)
  exact ex_ret (a := .tup [.str [c], .int ((k + 2 : Nat) : Int)]) (ev_tuple (evl_cons (evs_item (i := ((k + 1 : Nat) : Int)) (by dictfold_shaped) (by dictfold_shaped) (itm_str (nth_nat h2) (by room))) (by dictfold_shaped))) ⟨rfl, List.Sublist.refl _⟩
noncomputable abbrev S_fits : FnS := { names := [("item", false), ("sign", true)], globs := [] }
noncomputable abbrev S_fitsC : FnS := { names := [("low", false), ("high", false), ("sign", true)], globs := [], ro := true }
set_option maxHeartbeats 1000000 in
theorem fn_fits {d : Nat} {it : Rx} {c : Nat} (hl : it.2.length < 1000) : Fn T (.ref 161) (d + 1) [rxAV it, .str [c]] μ (.bool (fitsR it c)) μ := by
  refine fn_intro (S := S_fits) (σ₀ := [("item", .tup [.bool it.1, .lst (it.2.map rgAV)]), ("sign", .str [c])]) (i := 25) (params := ["item", "sign"]) (by decide) (by decide +kernel) rfl (by simp [rxAV]) rfl fun nd C hC hI => ?_
  have hf : ∀ p : Nat × Nat → Bool, (it.2.filter p).length < 1000 := fun p => Nat.lt_of_le_of_lt (List.length_filter_le _ _) hl
  refine ex_ret (a := .bool (fitsR it c)) ?_ ⟨rfl, List.Sublist.refl _⟩
  have e : fitsR it c = ((!((it.2.filter fun p => decide (p.1 ≤ c) && decide (c ≤ p.2)).map fun p => AV.str [p.1]).isEmpty) != it.1) := by
    unfold fitsR
    congr 1
    rw [List.isEmpty_map]
    induction it.2 with
    | nil => rfl
    | cons x l ih =>
      rw [List.any_cons, List.filter_cons]
      split
      · rename_i h; rw [h]; rfl
      · rename_i h; rw [ih]; simp at h ⊢; lia
  rw [e]
  refine evs_cmp (a := .bool (!((it.2.filter fun p => decide (p.1 ≤ c) && decide (c ≤ p.2)).map fun p => AV.str [p.1]).isEmpty)) (b := .bool it.1) (evs_cmp (a := .lst ((it.2.filter fun p => decide (p.1 ≤ c) && decide (c ≤ p.2)).map fun p => AV.str [p.1])) ?_ ev_nil (cmp_ne_nil (LstAt.lst _) (by have := hf fun p => decide (p.1 ≤ c) && decide (c ≤ p.2); simp; lia)) rfl)
    (evs_item (by dictfold_shaped) (by dictfold_shaped) (itm_tup (nth_nat (i := 0) rfl) (by show 2 < 2 ^ 62; decide))) cmp_ne_bool rfl
  refine ev_of_evn (evn_comp S_fitsC [("low", .un), ("high", .un), ("sign", .str [c])] (evi_list (evs_item (by dictfold_shaped) (by dictfold_shaped) (itm_tup (nth_nat (i := 1) rfl) (by show 2 < 2 ^ 62; decide)))) (by decide +kernel) rfl (by sl_keep) (by have := hf fun p => decide (p.1 ≤ c) && decide (c ≤ p.2); simp; unfold sizeLine; lia) fun C' hd => ?_)
  refine crun_map _ _ _ _ fun p hp => asg_pair (asg_local (by decide) (by dictfold_puts) (asg_local (by decide) (by dictfold_puts) ⟨rfl, .un (.un (Wk.refl _)), evts_one (evt_chain (a := .str [p.1]) (b := .str [c]) (c := .str [p.2]) (by dictfold_shaped) (by dictfold_shaped) ?_ (fun _ => (by dictfold_shaped)) fun _ => ?_), fun _ => (by dictfold_shaped)⟩))
  · have := cmp_les (C := C') (σ := [("low", .str [p.1]), ("high", .str [p.2]), ("sign", .str [c])]) (μ := μ) (x := [p.1]) (y := [c])
    rwa [les_one] at this
  · have := cmp_les (C := C') (σ := [("low", .str [p.1]), ("high", .str [p.2]), ("sign", .str [c])]) (μ := μ) (x := [c]) (y := [p.2])
    rwa [les_one] at this
end
end
section
section
variable {T : TopCx} {S : FnS} {C : Cx T S} {σ σ' : Sig} {μ μ' : Sto} {a : Addr} {a' : AV}
noncomputable def runAV (r : List Rx) : AV := .lst (r.map rxAV)
noncomputable def fitAt (run : List Rx) (name : List Nat) (k m : Nat) : Bool := match run[m]?, name[k + m]? with
  | some r, some c => fitsR r c
  | _, _ => false
noncomputable def atR (run : List Rx) (name : List Nat) (k : Nat) : Bool := decide (k + run.length ≤ name.length) && (List.range run.length).all fun m => fitAt run name k m
theorem atR_len {run : List Rx} {name : List Nat} {k : Nat} (h : atR run name k = true) : k + run.length ≤ name.length := by
  unfold atR at h
  simp only [Bool.and_eq_true, decide_eq_true_eq] at h
  exact h.1
theorem rng_small2 {a b : Nat} (h : a < 2 ^ 40) (h2 : b < 2 ^ 40) : Builtin.Range.small (a : Int) (b : Int) 1 = true := by
  unfold Builtin.Range.small Builtin.Range.rangeFitsLong
  rw [rangeSize_one]
  split <;> simp <;> lia
theorem size2 {a b : Nat} (h : a ≤ b) : Builtin.Range.rangeSize (a : Int) (b : Int) 1 = ((b - a : Nat) : Int) := by rw [rangeSize_one]; split <;> lia
theorem rngs_from (a n : Nat) : rngs (a : Int) 1 n = (List.range' a n).map fun (k : Nat) => .int (k : Int) := by
  unfold rngs
  rw [List.range'_eq_map_range, List.map_map]
  congr 1
  funext k
  simp
noncomputable abbrev S_at : FnS := { names := [("run", true), ("name", true), ("k", true)], globs := [("len", .builtin "len"), ("range", .type "range")] }
noncomputable abbrev S_atC : FnS := { names := [("m", false), ("run", true), ("name", true), ("k", true)], globs := [("_law_fits", .ref 161)], ro := true }
noncomputable def Sm (run : List Rx) : Prop := run.length < 1000 ∧ ∀ r ∈ run, r.2.length < 1000
set_option maxHeartbeats 1000000 in
theorem fn_at {d : Nat} {run : List Rx} {name : List Nat} {k : Nat} (hd1 : 1 ≤ d) (hs : Sm run) (hn : name.length < 1000) (hk : k < 1000) : Fn T (.ref 173) (d + 1) [runAV run, .str name, .int k] μ (.bool (atR run name k)) μ := by
  obtain ⟨hr, hit⟩ := hs
  refine fn_intro (S := S_at) (σ₀ := [("run", .lst (run.map rxAV)), ("name", .str name), ("k", .int k)]) (i := 27) (params := ["run", "name", "k"]) (by decide) (by decide +kernel) rfl (by simp [runAV]) rfl fun nd C hC hI => ?_
  have hdC := Nat.le_trans hd1 (Nat.le_of_eq hC.symm)
  have hlr : ∀ {σ : Sig}, CallA C (.builtin "len") [.lst (run.map rxAV)] σ μ (.int (run.length : Nat)) μ := fun {σ} => ca_lenm (LstAt.lst _) (by room)
  refine ex_if (b := decide (name.length < k + run.length)) (evt_cmp (a := .int ((k + run.length : Nat) : Int)) (b := .int (name.length : Nat)) (evs_bin (a := .int k) (b := .int (run.length : Nat)) (by dictfold_shaped) (evs_call (by dictfold_shaped) (by dictfold_shaped) (by dictfold_shaped2) hlr (fun _ _ => rfl)) op_add) (evs_call (by dictfold_shaped) (by dictfold_shaped) (by dictfold_shaped2) (ca_lens rfl (by room)) (fun _ _ => rfl)) cmp_gtN rfl) (fun q => ?_) fun q => ex_nil ?_
  · have : atR run name k = false := by unfold atR; simp at q ⊢; lia
    exact ex_ret (a := .bool false) (by dictfold_shaped) ⟨by rw [this], List.Sublist.refl _⟩
  · have hle : k + run.length ≤ name.length := by simp at q; exact q
    have e : atR run name k = ((List.range run.length).filter fun m => !fitAt run name k m).isEmpty := by
      unfold atR
      rw [decide_eq_true hle, Bool.true_and]
      induction List.range run.length with
      | nil => rfl
      | cons x l ih =>
        rw [List.all_cons, List.filter_cons]
        cases fitAt run name k x
        · rfl
        · simpa using ih
    have hfl := List.length_filter_le (fun m => !fitAt run name k m) (List.range run.length)
    rw [List.length_range] at hfl
    rw [e]
    refine ex_ret (a := .bool _) (evs_cmp (a := .lst (((List.range run.length).filter fun m => !fitAt run name k m).map fun (m : Nat) => .int m)) ?_ ev_nil (by have := fun σ => cmp_eq_nil (C := C) (σ := σ) (μ := μ) (LstAt.lst (((List.range run.length).filter fun m => !fitAt run name k m).map fun (m : Nat) => AV.int m)) (by simp; lia); simp only [List.isEmpty_map] at this; exact this _) rfl) ⟨rfl, List.Sublist.refl _⟩
    refine ev_of_evn (evn_comp S_atC [("m", .un), ("run", .lst (run.map rxAV)), ("name", .str name), ("k", .int k)] (evi_rng (n := run.length) (evs_call (by dictfold_shaped) (evl_cons (a := .int (run.length : Nat)) (evs_call (by dictfold_shaped) (by dictfold_shaped) (by dictfold_shaped2) hlr (fun _ _ => rfl)) evl_nil) (by dictfold_shaped2) ca_range1 (fun _ _ => rfl)) (rng_small (by room) (by room)) (size01 (by room))) (by decide +kernel) rfl (by sl_keep) (by simp; unfold sizeLine; lia) fun C' hd => ?_)
    rw [rngs_nat]
    refine crun_map _ _ _ _ fun m hm => ?_
    have hml : m < run.length := by simpa using hm
    have h1 : run[m]? = some run[m] := List.getElem?_eq_getElem hml
    have h2 : name[k + m]? = some (name[k + m]'(by room)) := List.getElem?_eq_getElem (by room)
    have e2 : fitAt run name k m = fitsR run[m] (name[k + m]'(by room)) := by unfold fitAt; rw [h1, h2]
    refine asg_local (by decide) (by dictfold_puts) ⟨rfl, .un (Wk.refl _), evts_one (evt_not (evt_val (a := .bool (fitAt run name k m)) ?_ tru_bool (fun _ => rfl))), fun _ => (by dictfold_shaped)⟩
    rw [e2]
    exact evs_call (as := [rxAV run[m], .str [name[k + m]'(by room)]]) (by dictfold_shaped) (evl_cons (evs_item (by dictfold_shaped) (by dictfold_shaped) (itm_list (LstAt.lst _) (nth_nat (by simp [h1])) (by simp; lia))) (evl_cons (evs_item (i := ((k + m : Nat) : Int)) (by dictfold_shaped) (by dictfold_shaped) (itm_str (nth_nat h2) (by room))) evl_nil)) (by dictfold_shaped2)
      (ca_fn (fn_fits (d := 0) (hit _ (List.getElem_mem hml))) (by room)) (fun _ _ => rfl)
end
end
section
section
variable {T : TopCx} {S : FnS} {C : Cx T S} {σ σ' : Sig} {μ μ' : Sto} {a : Addr} {a' : AV}
noncomputable def plc (run : List Rx) (name : List Nat) (b : Nat) : List Nat := (List.range' b (name.length + 1 - b)).filter fun k => atR run name k
noncomputable def midR (name : List Nat) (gl : List Rx) : List (List Rx) → Nat → Bool
  | [], b => decide (b + gl.length ≤ name.length) && atR gl name (name.length - gl.length)
  | run :: mids, b => match plc run name b with
    | [] => false
    | k :: _ => midR name gl mids (k + run.length)
inductive Runs where
  | one (g : List Rx)
  | many (g : List Rx) (mids : List (List Rx)) (gl : List Rx)
noncomputable def Runs.list : Runs → List (List Rx)
  | .one g => [g]
  | .many g mids gl => g :: (mids ++ [gl])
noncomputable def readsR (name : List Nat) : Runs → Bool
  | .one g => atR g name 0 && decide (name.length = g.length)
  | .many g mids gl => atR g name 0 && midR name gl mids g.length
theorem plc_mem {run : List Rx} {name : List Nat} {b k : Nat} {r : List Nat} (h : plc run name b = k :: r) : b ≤ k ∧ atR run name k = true := by
  have hm : k ∈ plc run name b := by rw [h]; exact .head _
  unfold plc at hm
  rw [List.mem_filter, List.mem_range'] at hm
  obtain ⟨⟨i, h1, h2⟩, h3⟩ := hm
  exact ⟨by lia, h3⟩
theorem slc_mid {α : Type} (x y : α) (r : List α) : slc (x :: (r ++ [y])) (some 1) (some (-1)) = r := by
  have hlen : (x :: (r ++ [y])).length = r.length + 2 := by simp
  have h1 : clipAt (x :: (r ++ [y])).length 1 = 1 := by have := clipAt_cast (x :: (r ++ [y])).length 1; rw [hlen] at this ⊢; simp at this; lia
  have h2 : clipAt (x :: (r ++ [y])).length (-1) = r.length + 1 := by have := clipAt_cast (x :: (r ++ [y])).length (-1); rw [hlen] at this ⊢; simp at this; lia
  unfold slc slo shi
  simp only [Option.elim, h1, h2]
  simp
noncomputable abbrev S_reads : FnS := { names := [("runs", false), ("name", true), ("behind", false), ("run", true), ("places", false), ("last", false)], globs := [("_law_at", .ref 173), ("len", .builtin "len"), ("range", .type "range")] }
noncomputable abbrev S_readsC : FnS := { names := [("k", false), ("run", true), ("name", true)], globs := [("_law_at", .ref 173)], ro := true }
theorem nth_neg1 {α : Type} {l : List α} {c : α} : nth (-1) (l ++ [c]) = some c := by
  unfold nth seqIndex?
  have h1 : ((-1 : Int) < 0) = True := by simp
  simp only [h1, if_true]
  have : ((((-1 : Int) + ((l ++ [c]).length : Nat)) ≥ 0) && (((-1 : Int) + ((l ++ [c]).length : Nat)) < ((l ++ [c]).length : Nat))) = true := by simp; lia
  rw [if_pos this]
  simp
  have : ((-1 : Int) + (l.length + 1)).toNat = l.length := by room
  rw [this]; simp
inductive WRd (g gl : List Rx) (mids : List (List Rx)) (name : List Nat) (μ : Sto) (as : List AV) : Sig → Sto → Prop
  | mk (ms : List (List Rx)) (b : Nat) (v1 v2 v3 : AV) (has : as = ms.map runAV) (hms : ∀ r ∈ ms, Sm r) (hb : b ≤ name.length) (hmid : midR name gl ms b = midR name gl mids g.length) :
      WRd g gl mids name μ as ([("runs", .lst ((g :: (mids ++ [gl])).map runAV)), ("name", .str name), ("behind", .int (b : Nat)), ("run", v1), ("places", v2), ("last", v3)] : Sig) μ
set_option maxHeartbeats 2000000 in
theorem fn_reads {d : Nat} {rs : Runs} {name : List Nat} (hd1 : 3 ≤ d) (hs : ∀ g ∈ rs.list, Sm g) (hlr : rs.list.length < 1000) (hn : name.length < 500) : Fn T (.ref 178) (d + 1) [.lst (rs.list.map runAV), .str name] μ (.bool (readsR name rs)) μ := by
  refine fn_intro (S := S_reads) (σ₀ := [("runs", .lst (rs.list.map runAV)), ("name", .str name), ("behind", .un), ("run", .un), ("places", .un), ("last", .un)]) (i := 28) (params := ["runs", "name"]) (by decide) (by decide +kernel) rfl (by simp) rfl fun nd C hC hI => ?_
  have hdC := Nat.le_trans hd1 (Nat.le_of_eq hC.symm)
  obtain ⟨g, rest, hg⟩ : ∃ g rest, rs.list = g :: rest := by cases rs <;> exact ⟨_, _, rfl⟩
  rw [hg] at hs hlr ⊢
  have hsg : Sm g := hs g (.head _)
  have hlr' : rest.length < 999 := by simp at hlr; lia
  have hi0 : ∀ {σ : Sig}, Itm C (.lst ((g :: rest).map runAV)) 0 σ μ (runAV g) := fun {σ} => itm_map (i := 0) (LstAt.lst _) rfl (by room)
  have hlg : ∀ {σ : Sig}, CallA C (.builtin "len") [runAV g] σ μ (.int (g.length : Nat)) μ := fun {σ} => ca_lenm (LstAt.lst _) (by have := hsg.1; room)
  have hr0 : atR g name 0 = false → readsR name rs = false := fun h => by
    cases rs with
    | one g' => cases hg; simp [readsR, h]
    | many g' m l => cases hg; simp [readsR, h]
  refine ex_if (b := !atR g name 0) (evt_not (evt_val (a := .bool (atR g name 0)) (evs_call (as := [runAV g, .str name, .int (0 : Nat)]) (by dictfold_shaped) (evl_cons (evs_item (by dictfold_shaped) (by dictfold_shaped) hi0) (by dictfold_shaped)) (by dictfold_shaped2) (ca_fn (fn_at (d := 1) (by room) hsg (by room) (by room)) (by room)) (fun _ _ => rfl)) tru_bool (fun _ => rfl))) (fun q => ?_) fun q => ex_nil ?_
  · exact ex_ret (a := .bool false) (by dictfold_shaped) ⟨by rw [hr0 (by simpa using q)], List.Sublist.refl _⟩
  have hat : atR g name 0 = true := by simpa using q
  have hgn := atR_len hat
  refine ex_if (b := decide ((g :: rest).length = 1)) (evt_cmp (a := .int ((g :: rest).length : Nat)) (evs_call (by dictfold_shaped) (by dictfold_shaped) (by dictfold_shaped2) (ca_lenm (LstAt.lst _) (by room)) (fun _ _ => rfl)) (by dictfold_shaped) (cmp_eqN (n := 1)) rfl) (fun q => ?_) fun q => ex_nil ?_
  · have hrest : rest = [] := by simpa using q
    have e : readsR name rs = decide (name.length = g.length) := by
      cases rs with
      | one g' => cases hg; simp [readsR, hat]
      | many g' m l => cases hg; simp at hrest
    rw [e]
    exact ex_ret (a := .bool (decide (name.length = g.length))) (evs_cmp (a := .int (name.length : Nat)) (b := .int (g.length : Nat)) (evs_call (by dictfold_shaped) (by dictfold_shaped) (by dictfold_shaped2) (ca_lens rfl (by room)) (fun _ _ => rfl)) (evs_call (by dictfold_shaped) (evl_cons (evs_item (by dictfold_shaped) (by dictfold_shaped) hi0) evl_nil) (by dictfold_shaped2) hlg (fun _ _ => rfl)) cmp_eqN rfl) ⟨rfl, List.Sublist.refl _⟩
  cases rs with
  | one g' => cases hg; simp at q
  | many g' mids gl =>
  cases hg
  have hsl : Sm gl := hs gl (by simp)
  have hsm : ∀ r ∈ mids, Sm r := fun r hr => hs r (by simp [hr])
  have e : readsR name (.many g mids gl) = midR name gl mids g.length := by simp [readsR, hat]
  rw [e]
  refine ex_let (a := .int (g.length : Nat)) (evs_call (by dictfold_shaped) (evl_cons (evs_item (by dictfold_shaped) (by dictfold_shaped) hi0) evl_nil) (by dictfold_shaped2) hlg (fun _ _ => rfl)) (by dictfold_puts) ?_
  refine ex_for (tl := true) (as := mids.map runAV) (μ₁ := μ) (WRd g gl mids name μ)
    (evi_list (evs_slice (by dictfold_shaped) (evo_some (by dictfold_shaped)) (evo_some (ev_neg (by dictfold_shaped))) (slcl (LstAt.lst _) (by rw [List.map_cons, List.map_append]; exact slc_mid _ _ _) (by simp at hlr ⊢; lia)))) ?_ ?_ ?_
  · exact ⟨mids, g.length, _, _, _, rfl, hsm, by lia, rfl⟩
  · rintro a as σ μ₁ ⟨ms, b, v1, v2, v3, has, hms, hb, hmid⟩
    cases ms with
    | nil => cases has
    | cons run ms =>
      cases has
      have hsr : Sm run := hms run (.head _)
      have hpl : (plc run name b).length ≤ name.length + 1 := by
        have := List.length_filter_le (fun k => atR run name k) (List.range' b (name.length + 1 - b))
        unfold plc; simp at this ⊢; lia
      refine asg_name (by dictfold_puts) ?_
      refine ex_assignU (μ₂ := μ) (out := (plc run name b).map fun (k : Nat) => .int k) S_readsC [("k", .un), ("run", runAV run), ("name", .str name)] (evi_rng (a := (b : Int)) (b := ((name.length + 1 : Nat) : Int)) (n := name.length + 1 - b) (evs_call (as := [.int b, .int ((name.length + 1 : Nat) : Int)]) (by dictfold_shaped) (evl_cons (by dictfold_shaped) (evl_cons (evs_bin (a := .int (name.length : Nat)) (evs_call (by dictfold_shaped) (by dictfold_shaped) (by dictfold_shaped2) (ca_lens rfl (by room)) (fun _ _ => rfl)) (by dictfold_shaped) op_add) evl_nil)) (by dictfold_shaped2) ca_range2 (fun _ _ => rfl)) (rng_small2 (by room) (by room)) (size2 (by room))) (by decide +kernel) rfl (by sl_keep) (by simp; unfold sizeLine; lia) (fun C' hd => ?_) (fun l => (by dictfold_puts)) (fun l => ?_) (by decide) rfl (by decide +kernel)
      · rw [rngs_from]
        refine crun_map _ _ _ _ fun k hk => ?_
        have hkl : k < 1000 := by rw [List.mem_range'] at hk; obtain ⟨i, h1, h2⟩ := hk; lia
        exact asg_local (by decide) (by dictfold_puts) ⟨rfl, .un (Wk.refl _), evts_one (evt_val (a := .bool (atR run name k)) (evs_call (as := [runAV run, .str name, .int k]) (by dictfold_shaped) (by dictfold_shaped) (by dictfold_shaped2) (ca_fn (fn_at (d := 1) (by room) hsr (by room) hkl) (by room)) (fun _ _ => rfl)) tru_bool (fun _ => rfl)), fun _ => (by dictfold_shaped)⟩
      · have hm : (l, (plc run name b).map fun (k : Nat) => AV.int k) ∈ (l, (plc run name b).map fun (k : Nat) => AV.int k) :: μ := .head _
        refine ex_if (b := (plc run name b).isEmpty) (evt_cmp (a := .own l) (by dictfold_shaped) ev_nil (by have := fun σ => cmp_eq_nil (C := C) (σ := σ) (LstAt.own hm) (by simp; lia); simp only [List.isEmpty_map] at this; exact this _) rfl) (fun q => ?_) fun q => ex_nil ?_
        · have hpe : plc run name b = [] := by simpa using q
          refine ex_ret (a := .bool false) (by dictfold_shaped) ⟨?_, .cons _ (List.Sublist.refl _)⟩
          rw [← hmid]; simp [midR, hpe]
        · cases hpc : plc run name b with
          | nil => rw [hpc] at q; cases q
          | cons k r =>
            obtain ⟨hbk, hak⟩ := plc_mem hpc
            have hkn := atR_len hak
            rw [hpc] at hm
            refine ex_let (a := .int ((k + run.length : Nat) : Int)) (evs_bin (a := .int k) (b := .int (run.length : Nat)) (evs_item (a := .own l) (by dictfold_shaped) (by dictfold_shaped) (itm_list (LstAt.own hm) (nth_nat (i := 0) rfl) (by rw [hpc] at hpl; simp at hpl ⊢; lia))) (evs_call (as := [runAV run]) (by dictfold_shaped) (by dictfold_shaped) (by dictfold_shaped2) (ca_lenm (LstAt.lst _) (by have := hsr.1; room)) (fun _ _ => rfl)) op_add) (by dictfold_puts) ?_
            refine ex_drop (List.sublist_cons_self _ _) (ex_nil ?_)
            exact ⟨ms, k + run.length, _, _, _, rfl, fun r hr => hms r (.tail _ hr), hkn, by rw [← hmid]; simp [midR, hpc]⟩
  · rintro σ μ₁ ⟨ms, b, v1, v2, v3, has, hms, hb, hmid⟩
    cases ms with
    | cons r ms => cases has
    | nil =>
      have hil : ∀ {σ : Sig}, Itm C (.lst ((g :: (mids ++ [gl])).map runAV)) (-1) σ μ (runAV gl) := fun {σ} => itm_list (LstAt.lst _) (by
        have : (g :: (mids ++ [gl])).map runAV = ((g :: mids).map runAV) ++ [runAV gl] := by simp
        rw [this]; exact nth_neg1) (by simp at hlr ⊢; lia)
      have hll : ∀ {σ : Sig}, CallA C (.builtin "len") [runAV gl] σ μ (.int (gl.length : Nat)) μ := fun {σ} => ca_lenm (LstAt.lst _) (by have := hsl.1; room)
      refine ex_nil (ex_let (a := .int ((name.length : Int) - (gl.length : Nat))) (evs_bin (evs_call (by dictfold_shaped) (by dictfold_shaped) (by dictfold_shaped2) (ca_lens rfl (by room)) (fun _ _ => rfl)) (evs_call (by dictfold_shaped) (evl_cons (evs_item (by dictfold_shaped) (ev_neg (by dictfold_shaped)) hil) evl_nil) (by dictfold_shaped2) hll (fun _ _ => rfl)) op_sub) (by dictfold_puts) ?_)
      rw [← hmid]
      refine ex_ret (a := .bool (midR name gl [] b)) (ev_boolop (cha (x := decide ((b : Int) ≤ (name.length : Int) - (gl.length : Nat))) (by dictfold_shaped) (fun q => ?_) fun q => evch_one ?_)) ⟨rfl, List.Sublist.refl _⟩
      · have : ¬ (b + gl.length ≤ name.length) := by simp at q; lia
        simp [midR, this]
      · have h1 : b + gl.length ≤ name.length := by simp at q; lia
        have e1 : midR name gl [] b = atR gl name (name.length - gl.length) := by simp [midR, h1]
        have e2 : (name.length : Int) - (gl.length : Nat) = ((name.length - gl.length : Nat) : Int) := by room
        rw [e1, e2]
        exact evs_call (as := [runAV gl, .str name, .int ((name.length - gl.length : Nat) : Int)]) (by dictfold_shaped) (evl_cons (evs_item (by dictfold_shaped) (ev_neg (by dictfold_shaped)) hil) (by dictfold_shaped)) (by dictfold_shaped2) (ca_fn (fn_at (d := 1) (by room) hsl (by room) (by room)) (by room)) (fun _ _ => rfl)
end
end
section
section
variable {T : TopCx} {S : FnS} {C : Cx T S} {σ σ' : Sig} {μ μ' : Sto} {a : Addr} {a' : AV}
theorem ex_nd {C : Cx T S} {rest : List Stmt} {K : AF → Sig → Sto → Prop} (h : (μ.map (·.1)).Nodup → Ex C rest σ μ K) : Ex C rest σ μ K := ⟨fun ok B s Z R => (h R.nd).run ok B s Z R⟩
theorem upd_ne {l : Addr} {xs ys : List AV} (h : l ≠ a) : upd a xs ((l, ys) :: μ) = (l, ys) :: upd a xs μ := by show (if l = a then _ else _) = _; rw [if_neg h]
theorem hpop_perm (x : Ru) (r : List Ru) : (x :: hpop (x :: r)).Perm (x :: r) := by
  refine List.Perm.cons x ?_
  unfold hpop
  dsimp only
  cases hl : r.getLast? with
  | none => rw [List.getLast?_eq_none_iff] at hl; subst hl; exact List.Perm.refl _
  | some y =>
    have hr : r = r.dropLast ++ [y] := by
      obtain ⟨ys, e⟩ := List.getLast?_eq_some_iff.mp hl
      rw [e]; simp
    refine (siftup_perm (by simp)).trans ?_
    conv => rhs; rw [hr]
    exact (List.perm_append_comm (l₁ := [y]) (l₂ := r.dropLast))
theorem hpush_perm (h : List Ru) (x : Ru) : (hpush h x).Perm (x :: h) := by
  unfold hpush
  refine (sd_perm x 0 h.length (h ++ [x]) (by simp)).trans ?_
  have : (h ++ [x]).set h.length x = h ++ [x] := by simp
  rw [this]
  exact List.perm_append_comm
theorem hpop_len (x : Ru) (r : List Ru) : (hpop (x :: r)).length = r.length := by
  have := (hpop_perm x r).length_eq
  simpa using this
noncomputable def lf (rd : Ru → Bool) : Nat → List Ru → List Ru → Int × List Ru × List Ru
  | 0, g, ps => (-1, g, ps)
  | _ + 1, [], ps => (-1, [], ps)
  | k + 1, x :: r, ps => if rd x then (x.n, hpop (x :: r), ps ++ [x]) else lf rd k (hpop (x :: r)) (ps ++ [x])
noncomputable def pushes (h : List Ru) (ps : List Ru) : List Ru := ps.foldl hpush h
noncomputable def lfound (rd : Ru → Bool) (h : List Ru) : Int := (lf rd h.length h []).1
noncomputable def lheap (rd : Ru → Bool) (h : List Ru) : List Ru := pushes (lf rd h.length h []).2.1 (lf rd h.length h []).2.2
theorem lf_perm (rd : Ru → Bool) : ∀ (k : Nat) (g ps : List Ru), ((lf rd k g ps).2.1 ++ (lf rd k g ps).2.2).Perm (g ++ ps)
  | 0, g, ps => List.Perm.refl _
  | k + 1, [], ps => List.Perm.refl _
  | k + 1, x :: r, ps => by
    have hp : (hpop (x :: r) ++ (ps ++ [x])).Perm (x :: r ++ ps) := by
      have h1 : (hpop (x :: r) ++ (ps ++ [x])).Perm ((x :: hpop (x :: r)) ++ ps) := by
        rw [← List.append_assoc]
        exact List.perm_append_comm.trans (List.Perm.refl _)
      exact h1.trans ((hpop_perm x r).append_right ps)
    unfold lf
    split
    · exact hp
    · exact (lf_perm rd k _ _).trans hp
theorem pushes_perm : ∀ (ps h : List Ru), (pushes h ps).Perm (ps ++ h)
  | [], h => List.Perm.refl _
  | x :: ps, h => by
    show (pushes (hpush h x) ps).Perm _
    refine (pushes_perm ps _).trans ?_
    refine ((hpush_perm h x).append_left ps).trans ?_
    exact List.perm_middle
theorem lheap_perm (rd : Ru → Bool) (h : List Ru) : (lheap rd h).Perm h := by
  refine (pushes_perm _ _).trans (List.perm_append_comm.trans ((lf_perm rd h.length h []).trans ?_))
  simp
noncomputable abbrev S_first : FnS := { names := [("heap", false), ("name", false), ("passed", false), ("found", false), ("rule", false)], globs := [("heappop", .ref 83), ("_law_reads", .ref 178), ("heappush", .ref 76)] }
noncomputable def Rd (name : List Nat) (rd : Ru → Bool) (x : Ru) : Prop := 0 ≤ x.n ∧ ∃ rs : Runs, x.x = .lst (rs.list.map runAV) ∧ (∀ g ∈ rs.list, Sm g) ∧ rs.list.length < 1000 ∧ readsR name rs = rd x
inductive WFa (a l : Addr) (rd : Ru → Bool) (h : List Ru) (name : List Nat) (μ : Sto) : Nat → Sig → Sto → Prop
  | mk (g ps : List Ru) (f : Int) (μ₁ : Sto) (e : μ₁ = (l, ps.map Ru.av) :: upd a (g.map Ru.av) μ) (hp : (g ++ ps).Perm h) (hf : (f = -1 ∧ lf rd g.length g ps = lf rd h.length h []) ∨ (0 ≤ f ∧ lf rd h.length h [] = (f, g, ps))) :
      WFa a l rd h name μ g.length ([("heap", .own a), ("name", .str name), ("passed", .own l), ("found", .int f), ("rule", .un)] : Sig) μ₁
inductive WFb (a : Addr) (h g ps : List Ru) (f : Int) (name : List Nat) (μ : Sto) (as : List AV) : Sig → Sto → Prop
  | mk (g' qs : List Ru) (v : AV) (has : as = qs.map Ru.av) (hp : (g' ++ qs).Perm h) (hpu : pushes g' qs = pushes g ps) :
      WFb a h g ps f name μ as ([("heap", .own a), ("name", .str name), ("passed", .lst (ps.map Ru.av)), ("found", .int f), ("rule", v)] : Sig) (upd a (g'.map Ru.av) μ)
set_option maxHeartbeats 2000000 in
theorem fn_first {d : Nat} {h : List Ru} {name : List Nat} {rd : Ru → Bool} (hd1 : 5 ≤ d) (hR : ∀ x ∈ h, Rd name rd x) (hdn : (h.map (·.n)).Nodup) (hl : h.length < 1000) (hn : name.length < 500) (hm : (a, h.map Ru.av) ∈ μ) :
    Fn T (.ref 192) (d + 1) [.own a, .str name] μ (.int (lfound rd h)) (upd a ((lheap rd h).map Ru.av) μ) := by
  refine fn_intro (S := S_first) (σ₀ := [("heap", .own a), ("name", .str name), ("passed", .un), ("found", .un), ("rule", .un)]) (i := 30) (params := ["heap", "name"]) (by decide) (by decide +kernel) rfl (by simp) rfl fun nd C hC hI => ?_
  have hdC := Nat.le_trans hd1 (Nat.le_of_eq hC.symm)
  refine ex_assignN (evn_list evl_nil) (fun l => (by dictfold_puts)) fun l => ?_
  refine ex_nd fun ndl => ?_
  have hla : l ≠ a := by
    rw [List.map_cons, List.nodup_cons] at ndl
    exact fun e => ndl.1 (e ▸ List.mem_map_of_mem (f := (·.1)) hm)
  refine ex_let (a := .int (-1)) (ev_neg (by dictfold_shaped)) (by dictfold_puts) ?_
  refine ex_while (WFa a l rd h name μ) (n := h.length) ⟨h, [], -1, _, by rw [upd_same nd hm]; rfl, by simp, .inl ⟨rfl, rfl⟩⟩ ?_
  rintro _ σ μ₁ ⟨g, ps, f, _, rfl, hp, hf⟩
  have hgl : g.length ≤ h.length := by have := hp.length_eq; simp at this; lia
  have hpl : ps.length ≤ h.length := by have := hp.length_eq; simp at this; lia
  have hma : (a, g.map Ru.av) ∈ (l, ps.map Ru.av) :: upd a (g.map Ru.av) μ := .tail _ (upd_mem hm)
  refine ⟨!g.isEmpty && decide (f < 0), evt_bool (ala (x := !g.isEmpty) (evt_cmp (a := .own a) (by dictfold_shaped) ev_nil (by have := fun σ => cmp_ne_nil (C := C) (σ := σ) (LstAt.own hma) (by simp; lia); simp only [List.isEmpty_map] at this; exact this _) rfl) (fun q => by simp [q]) fun q => ala (x := decide (f < 0)) (by dictfold_shaped) (fun q2 => by simp [q2]) fun q2 => ale (by simp [q, q2])), fun hb => ?_, fun hb => ?_⟩
  · cases g with
    | nil => cases hb
    | cons x r =>
      have hf0 : f < 0 := by simpa using hb
      obtain ⟨rfl, hlf⟩ : f = -1 ∧ lf rd (x :: r).length (x :: r) ps = lf rd h.length h [] := hf.resolve_right fun q => by lia
      have hxh : x ∈ h := hp.subset (by simp)
      obtain ⟨hx0, rs, hxr, hsm, hrl, hrd⟩ := hR x hxh
      have hndg : ((x :: r).map (·.n)).Nodup := by
        have h1 := ((hp.map (·.n)).nodup_iff).mpr hdn
        rw [List.map_append] at h1
        exact (List.nodup_append.mp h1).1
      have hpp := hpop_perm x r
      have hpn : (hpop (x :: r) ++ (ps ++ [x])).Perm h := by
        have h1 : (hpop (x :: r) ++ (ps ++ [x])).Perm ((x :: hpop (x :: r)) ++ ps) := by
          rw [← List.append_assoc]; exact List.perm_append_comm
        exact (h1.trans (hpp.append_right ps)).trans hp
      refine ex_expr (evs_meth (μ₂ := (l, ps.map Ru.av) :: upd a ((hpop (x :: r)).map Ru.av) μ) (a := .own l) (as := [x.av]) (by dictfold_shaped) (isOf_list (LstAt.own (.head _))) m_append (evl_cons (evs_call (as := [.own a]) (by dictfold_shaped) (by dictfold_shaped) (by dictfold_shaped2) (by have := ca_fn (C := C) (σ := [("heap", .own a), ("name", .str name), ("passed", .own l), ("found", .int (-1)), ("rule", .un)]) (fn_heappop (T := T) (d := 3) (by room) hndg (by simp at hgl; lia) (by unfold sizeLine; simp at hgl; lia) hma) (by room); rw [upd_ne hla, upd_upd] at this; exact this) (fun _ _ => rfl)) evl_nil) (ca_append (.head _) .head (by unfold sizeLine; simp; lia))) ?_ hI
      have e1 : ps.map Ru.av ++ [x.av] = (ps ++ [x]).map Ru.av := by simp
      rw [e1]
      have hav : x.av = .tup [.int x.r, .int x.n, .lst (rs.list.map runAV)] := by unfold Ru.av; rw [hxr]
      have hlast : ∀ {σ : Sig} {μ' : Sto}, (l, (ps ++ [x]).map Ru.av) ∈ μ' → Itm C (.own l) (-1) σ μ' (.tup [.int x.r, .int x.n, .lst (rs.list.map runAV)]) := fun {σ μ'} hm' => itm_list (LstAt.own hm') (by rw [List.map_append, ← hav]; exact nth_neg1) (by simp; lia)
      refine ex_if (b := rd x) (evt_val (a := .bool (rd x)) (by rw [← hrd]; exact evs_call (as := [.lst (rs.list.map runAV), .str name]) (by dictfold_shaped) (evl_cons (evs_item (a := .tup [.int x.r, .int x.n, .lst (rs.list.map runAV)]) (evs_item (by dictfold_shaped) (ev_neg (by dictfold_shaped)) (hlast (.head _))) (by dictfold_shaped) (itm_tup (nth_nat (i := 2) rfl) (by show 3 < 2 ^ 62; decide))) (by dictfold_shaped)) (by dictfold_shaped2) (ca_fn (fn_reads (d := 3) (by room) hsm hrl hn) (by room)) (fun _ _ => rfl)) tru_bool (fun _ => rfl)) (fun hb => ?_) fun hb => ?_
      · refine ex_let (a := .int x.n) (evs_item (a := .tup [.int x.r, .int x.n, .lst (rs.list.map runAV)]) (evs_item (by dictfold_shaped) (ev_neg (by dictfold_shaped)) (hlast (.head _))) (by dictfold_shaped) (itm_tup (nth_nat (i := 1) rfl) (by show 3 < 2 ^ 62; decide))) (by dictfold_puts) (ex_nil (ex_nil ?_))
        refine ⟨(hpop (x :: r)).length, by rw [hpop_len]; simp, hpop (x :: r), ps ++ [x], x.n, _, rfl, hpn, .inr ⟨hx0, ?_⟩⟩
        rw [← hlf, List.length_cons]; unfold lf; rw [if_pos hb]
      · refine ex_nil (ex_nil ?_)
        refine ⟨(hpop (x :: r)).length, by rw [hpop_len]; simp, hpop (x :: r), ps ++ [x], -1, _, rfl, hpn, .inl ⟨rfl, ?_⟩⟩
        rw [← hlf, List.length_cons]
        conv => rhs; unfold lf
        rw [if_neg (by rw [hb]; decide), hpop_len]
  · have hfin : lf rd h.length h [] = (f, g, ps) := by
      rcases hf with ⟨rfl, hlf⟩ | ⟨_, hlf⟩
      · have : g = [] := by simpa using hb
        subst this
        rw [← hlf]; rfl
      · exact hlf
    have hfd : lfound rd h = f := by unfold lfound; rw [hfin]
    have hhp : lheap rd h = pushes g ps := by unfold lheap; rw [hfin]
    rw [hfd, hhp]
    refine ex_nil ?_
    refine ex_freeze (σ' := [("heap", .own a), ("name", .str name), ("passed", .lst (ps.map Ru.av)), ("found", .int f), ("rule", .un)]) (by sl_close) (FzM.refl _ _ _) ?_
    refine ex_for (tl := true) (as := ps.map Ru.av) (μ₁ := upd a (g.map Ru.av) μ) (WFb a h g ps f name μ)
      (evi_list (by dictfold_shaped)) ⟨g, ps, _, rfl, hp, rfl⟩ ?_ ?_
    · rintro a' as σ μ₁ ⟨g', qs, v, has, hp', hpu⟩
      cases qs with
      | nil => cases has
      | cons q qs =>
        cases has
        have hgl' : g'.length ≤ h.length := by have := hp'.length_eq; simp at this; lia
        have hpq : (g' ++ [q] ++ qs).Perm h := by rw [List.append_assoc]; exact hp'
        refine asg_name (by dictfold_puts) ?_
        refine ex_expr (evs_call (as := [.own a, q.av]) (by dictfold_shaped) (by dictfold_shaped) (by dictfold_shaped2) (ca_fn (fn_heappush (d := 1) (h := g') (x := q) (by room) (by
          have h1 := ((hpq.map (·.n)).nodup_iff).mpr hdn
          rw [List.map_append] at h1
          exact (List.nodup_append.mp h1).1) (by room) (by unfold sizeLine; lia) (upd_mem hm)) (by room)) (fun _ _ => rfl)) ?_ hI
        rw [upd_upd]
        refine ex_nil ⟨hpush g' q, qs, _, rfl, ?_, hpu⟩
        refine ((hpush_perm g' q).append_right qs).trans ?_
        exact (List.perm_middle (l₁ := g')).symm.trans hp'
    · rintro σ μ₁ ⟨g', qs, v, has, hp', hpu⟩
      cases qs with
      | cons q qs => cases has
      | nil =>
        refine ex_nil (ex_ret (by dictfold_shaped) ⟨rfl, ?_⟩)
        rw [← hpu]; exact List.Sublist.refl _
end
end
section
section
variable {T : TopCx} {S : FnS} {C : Cx T S} {σ σ' : Sig} {μ μ' : Sto} {a : Addr} {a' : AV}
inductive Sgn : List Nat → Nat → List Nat → Prop
  | plain {c r} : c ≠ 92 → Sgn (c :: r) c r
  | esc {c r} : Sgn (92 :: c :: r) c r
theorem Sgn.lt {w w' : List Nat} {c : Nat} (s : Sgn w c w') : w'.length < w.length := by cases s <;> simp <;> lia
theorem get_drop {text w : List Nat} {k : Nat} (h : text.drop k = w) (i : Nat) : text[k + i]? = w[i]? := by rw [← h, List.getElem?_drop]
theorem drop_add {text w : List Nat} {k : Nat} (h : text.drop k = w) (i : Nat) : text.drop (k + i) = w.drop i := by rw [← h, List.drop_drop]
theorem drop_len {text w : List Nat} {k : Nat} (h : text.drop k = w) (hw : 0 < w.length) : k + w.length = text.length := by
  have := congrArg List.length h
  rw [List.length_drop] at this; lia
theorem fn_sign {d : Nat} {text w w' : List Nat} {k c : Nat} (h : text.drop k = w) (s : Sgn w c w') (hl : text.length < 2 ^ 20) : ∃ k', text.drop k' = w' ∧ k < k' ∧ ∀ μ, Fn T (.ref 142) (d + 1) [.str text, .int k] μ (.tup [.str [c], .int (k' : Nat)]) μ := by
  cases s with
  | plain hc => exact ⟨k + 1, by rw [drop_add h]; rfl, by lia, fun μ => fn_sign1 (by have := get_drop h 0; simpa using this) hc hl⟩
  | esc => exact ⟨k + 2, by rw [drop_add h]; rfl, by lia, fun μ => fn_sign2 (by have := get_drop h 0; simpa using this) (by have := get_drop h 1; simpa using this) hl⟩
inductive Rgs (post : List Nat) : List Nat → List (Nat × Nat) → Prop
  | nil : Rgs post (93 :: post) []
  | one {b w c x w' l} : b ≠ 93 → Sgn (b :: w) c (x :: w') → x ≠ 45 → Rgs post (x :: w') l → Rgs post (b :: w) ((c, c) :: l)
  | rng {b w c w' c' w'' l} : b ≠ 93 → Sgn (b :: w) c (45 :: w') → Sgn w' c' w'' → Rgs post w'' l → Rgs post (b :: w) ((c, c') :: l)
theorem Rgs.pos {post w : List Nat} {l : List (Nat × Nat)} (h : Rgs post w l) : 0 < w.length := by cases h <;> simp
theorem Rgs.len {post w : List Nat} {l : List (Nat × Nat)} (h : Rgs post w l) : l.length ≤ w.length := by
  induction h with
  | nil => simp
  | one _ s _ _ ih => have := s.lt; simp at this ih ⊢; lia
  | rng _ s s' _ ih => have := s.lt; have := s'.lt; simp at *; lia
theorem Sgn.suf {w w' : List Nat} {c : Nat} (s : Sgn w c w') : w' <:+ w := by
  cases s with
  | plain _ => exact List.suffix_cons _ _
  | esc => exact (List.suffix_cons _ _).trans (List.suffix_cons _ _)
theorem Rgs.suf {post w : List Nat} {l : List (Nat × Nat)} (h : Rgs post w l) : (93 :: post) <:+ w := by
  induction h with
  | nil => exact List.suffix_refl _
  | one _ s _ _ ih => exact ih.trans s.suf
  | rng _ s s' _ ih => exact ih.trans (s'.suf.trans ((List.suffix_cons _ _).trans s.suf))
noncomputable abbrev S_set : FnS := { names := [("text", false), ("k", false), ("turned", false), ("ranges", false), ("low", false), ("high", false)], globs := [("_law_sign", .ref 142)] }
theorem str_ne1 {x y : Nat} : (([x] : List Nat) != [y]) = !decide (x = y) := by rw [Bool.eq_iff_iff]; simp
theorem str_eq1 {x y : Nat} : (([x] : List Nat) == [y]) = decide (x = y) := by rw [Bool.eq_iff_iff]; simp
theorem cmp_ne1 {x y : Nat} : Cmp C .NotEq (.str [x]) (.str [y]) σ μ (!decide (x = y)) := by have := cmp_nes (C := C) (σ := σ) (μ := μ) (x := [x]) (y := [y]); rwa [str_ne1] at this
theorem cmp_eq1 {x y : Nat} : Cmp C .Eq (.str [x]) (.str [y]) σ μ (decide (x = y)) := by have := cmp_eqs (C := C) (σ := σ) (μ := μ) (x := [x]) (y := [y]); rwa [str_eq1] at this
inductive WSe (text post : List Nat) (l0 : List (Nat × Nat)) (t : Bool) (l : Addr) (μ : Sto) : Nat → Sig → Sto → Prop
  | mk (w : List Nat) (kk : Nat) (acc rest : List (Nat × Nat)) (v1 v2 : AV) (μ₁ : Sto) (hk : text.drop kk = w) (hr : Rgs post w rest) (hacc : l0 = acc ++ rest) (e : μ₁ = (l, acc.map rgAV) :: μ) :
      WSe text post l0 t l μ w.length ([("text", .str text), ("k", .int kk), ("turned", .bool t), ("ranges", .own l), ("low", v1), ("high", v2)] : Sig) μ₁
set_option maxHeartbeats 2000000 in
theorem fn_set {d : Nat} {text w post : List Nat} {k : Nat} {t : Bool} {l0 : List (Nat × Nat)} (hd1 : 1 ≤ d) (h : text.drop k = 91 :: (if t then 94 :: w else w)) (ht : t = false → w.head? ≠ some 94) (hr : Rgs post w l0) (hl0 : l0 ≠ []) (hl : text.length < 2 ^ 20) :
    ∃ k', text.drop k' = post ∧ k < k' ∧ ∀ μ, Fn T (.ref 149) (d + 1) [.str text, .int k] μ (.tup [rxAV (t, l0), .int (k' : Nat)]) μ := by
  have hwp := hr.pos
  obtain ⟨b, w1, rfl⟩ : ∃ b w1, w = b :: w1 := by cases w with | nil => simp at hwp | cons b w1 => exact ⟨b, w1, rfl⟩
  obtain ⟨k0, hk0, hk0k, hk0e⟩ : ∃ k0, text.drop k0 = b :: w1 ∧ k < k0 ∧ k0 = k + (if t then 2 else 1) := by
    cases t with
    | true => exact ⟨k + 2, by rw [drop_add h]; rfl, by lia, rfl⟩
    | false => exact ⟨k + 1, by rw [drop_add h]; rfl, by lia, rfl⟩
  have hb94 : text[k + 1]? = some (if t then 94 else b) := by rw [get_drop h]; cases t <;> rfl
  have hb1 : decide ((if t then 94 else b) = 94) = t := by
    cases t with
    | true => rfl
    | false => have := ht rfl; simp at this ⊢; exact this
  have hsuf := hr.suf
  have hpw : post.length < (b :: w1).length := by have := hsuf.length_le; simp at this ⊢; lia
  have hdl := drop_len hk0 (by simp)
  have hpost : ∀ kk, text.drop kk = 93 :: post → kk + 1 = text.length - post.length := fun kk hk => by have := drop_len hk (by simp); simp at this; lia
  refine ⟨text.length - post.length, ?_, by lia, fun μ => ?_⟩
  · have h1 : post <:+ text := ((List.suffix_cons 93 post).trans hsuf).trans (hk0 ▸ List.drop_suffix _ _)
    exact (List.suffix_iff_eq_drop.mp h1).symm
  refine fn_intro (S := S_set) (σ₀ := [("text", .str text), ("k", .int k), ("turned", .un), ("ranges", .un), ("low", .un), ("high", .un)]) (i := 23) (params := ["text", "k"]) (by decide) (by decide +kernel) rfl (by simp) rfl fun nd C hC hI => ?_
  have hdC := Nat.le_trans hd1 (Nat.le_of_eq hC.symm)
  refine ex_let (a := .bool t) (by rw [← hb1]; exact evs_cmp (evs_item (a := .str text) (i := ((k + 1 : Nat) : Int)) (by dictfold_shaped) (by dictfold_shaped) (itm_str (nth_nat hb94) (by room))) (ev_str (y := [94]) (by decide +kernel)) cmp_eq1 rfl) (by dictfold_puts) ?_
  refine ex_aug_int (i := k) (j := if t then 2 else 1) (by dictfold_has) (evs_ife (b := t) (by dictfold_shaped) (fun q => by rw [if_pos q]; exact (by dictfold_shaped)) fun q => by rw [if_neg (by rw [q]; decide)]; exact (by dictfold_shaped)) (by dictfold_puts) ?_
  have hk0i : (k : Int) + (if t then 2 else 1) = (k0 : Nat) := by rw [hk0e]; cases t <;> simp
  rw [hk0i]
  refine ex_assignN (evn_list evl_nil) (fun l => (by dictfold_puts)) fun l => ?_
  refine ex_while (WSe text post l0 t l μ) (n := w1.length + 1) ⟨b :: w1, k0, [], l0, _, _, _, hk0, hr, rfl, rfl⟩ ?_
  rintro n σ μ₁ ⟨w, kk, acc, rest, v1, v2, _, hk, hr', hacc, rfl⟩
  have hdk := drop_len hk hr'.pos
  have hrl := hr'.len
  have hll : acc.length + rest.length = l0.length := by rw [hacc]; simp
  have hl0l : l0.length < 2 ^ 20 := by have := hr.len; simp at this hdl; lia
  have hm : (l, acc.map rgAV) ∈ (l, acc.map rgAV) :: μ := .head _
  have hcnil : ∀ σ, Cmp C .Eq (.own l) (.lst []) σ ((l, acc.map rgAV) :: μ) acc.isEmpty := fun σ => by
    have := cmp_eq_nil (C := C) (σ := σ) (LstAt.own hm) (by simp; lia)
    simpa only [List.isEmpty_map] using this
  cases hr' with
  | nil =>
    have hane : acc.isEmpty = false := by
      cases acc with
      | nil => exact absurd hacc (by simpa using hl0)
      | cons x r => rfl
    have h93 : text[kk]? = some 93 := by have := get_drop hk 0; simpa using this
    refine ⟨false, evt_bool (alo (x := false) (evt_cmp (evs_item (by dictfold_shaped) (by dictfold_shaped) (itm_str (nth_nat h93) (by room))) (ev_str (y := [93]) (by decide +kernel)) cmp_ne1 rfl) (fun q => nomatch q) fun _ => alo (x := false) (evt_cmp (by dictfold_shaped) ev_nil (by have := hcnil; rw [hane] at this; exact this _) rfl) (fun q => nomatch q) fun _ => alf rfl), (fun q => nomatch q), fun _ => ?_⟩
    refine ex_nil ?_
    refine ex_freeze (σ' := [("text", .str text), ("k", .int kk), ("turned", .bool t), ("ranges", .lst (acc.map rgAV)), ("low", v1), ("high", v2)]) (by sl_close) (FzM.refl _ _ _) ?_
    have e := hpost kk hk
    refine ex_ret (a := .tup [.tup [.bool t, .lst (acc.map rgAV)], .int ((kk + 1 : Nat) : Int)]) (ev_tuple (evl_cons (ev_tuple (by dictfold_shaped)) (by dictfold_shaped))) ⟨?_, List.Sublist.refl _⟩
    rw [e, hacc, List.append_nil]; rfl
  | @one b w1 c x w' l' hb hs hx hr'' =>
    obtain ⟨k1, hk1, hkk, hf⟩ := fn_sign (T := T) (d := 0) hk hs hl
    have hb0 : text[kk]? = some b := by have := get_drop hk 0; simpa using this
    have hx0 : text[k1]? = some x := by have := get_drop hk1 0; simpa using this
    refine ⟨true, evt_bool (alo (x := true) (evt_cmp (evs_item (by dictfold_shaped) (by dictfold_shaped) (itm_str (nth_nat hb0) (by room))) (ev_str (y := [93]) (by decide +kernel)) (by have := cmp_ne1 (C := C) (σ := [("text", .str text), ("k", .int kk), ("turned", .bool t), ("ranges", .own l), ("low", v1), ("high", v2)]) (μ := (l, acc.map rgAV) :: μ) (x := b) (y := 93); simpa [hb] using this) rfl) (fun _ => rfl) fun q => nomatch q), fun _ => ?_, fun q => nomatch q⟩
    refine ex_asgT (evs_call (as := [.str text, .int kk]) (by dictfold_shaped) (by dictfold_shaped) (by dictfold_shaped2) (ca_fn (hf _) (by room)) (fun _ _ => rfl)) (asg_pair (asg_name (by dictfold_puts) (asg_name (by dictfold_puts) ?_))) (fun _ => rfl) rfl
    refine ex_let (by dictfold_shaped) (by dictfold_puts) ?_
    refine ex_if (b := false) (evt_cmp (evs_item (by dictfold_shaped) (by dictfold_shaped) (itm_str (nth_nat hx0) (by room))) (ev_str (y := [45]) (by decide +kernel)) (by have := fun σ => cmp_eq1 (C := C) (σ := σ) (μ := (l, acc.map rgAV) :: μ) (x := x) (y := 45); simp only [hx, decide_false] at this; exact this _) rfl) (fun q => nomatch q) fun _ => ex_nil ?_
    refine ex_expr (evs_meth (a := .own l) (as := [.tup [.str [c], .str [c]]]) (by dictfold_shaped) (isOf_list (LstAt.own (.head _))) m_append (by dictfold_shaped) (ca_append (.head _) .head (by unfold sizeLine; simp; lia))) ?_ hI
    refine ex_nil ⟨_, (by have := hs.lt; exact this), x :: w', k1, acc ++ [(c, c)], l', _, _, _, hk1, hr'', by simp [hacc], by simp [rgAV]⟩
  | @rng b w1 c w' c' w'' l' hb hs hs' hr'' =>
    obtain ⟨k1, hk1, hkk, hf⟩ := fn_sign (T := T) (d := 0) hk hs hl
    have hk1' : text.drop (k1 + 1) = w' := by rw [drop_add hk1]; rfl
    obtain ⟨k2, hk2, hkk2, hf2⟩ := fn_sign (T := T) (d := 0) hk1' hs' hl
    have hb0 : text[kk]? = some b := by have := get_drop hk 0; simpa using this
    have hx0 : text[k1]? = some 45 := by have := get_drop hk1 0; simpa using this
    refine ⟨true, evt_bool (alo (x := true) (evt_cmp (evs_item (by dictfold_shaped) (by dictfold_shaped) (itm_str (nth_nat hb0) (by room))) (ev_str (y := [93]) (by decide +kernel)) (by have := cmp_ne1 (C := C) (σ := [("text", .str text), ("k", .int kk), ("turned", .bool t), ("ranges", .own l), ("low", v1), ("high", v2)]) (μ := (l, acc.map rgAV) :: μ) (x := b) (y := 93); simpa [hb] using this) rfl) (fun _ => rfl) fun q => nomatch q), fun _ => ?_, fun q => nomatch q⟩
    refine ex_asgT (evs_call (as := [.str text, .int kk]) (by dictfold_shaped) (by dictfold_shaped) (by dictfold_shaped2) (ca_fn (hf _) (by room)) (fun _ _ => rfl)) (asg_pair (asg_name (by dictfold_puts) (asg_name (by dictfold_puts) ?_))) (fun _ => rfl) rfl
    refine ex_let (by dictfold_shaped) (by dictfold_puts) ?_
    refine ex_if (b := true) (evt_cmp (evs_item (by dictfold_shaped) (by dictfold_shaped) (itm_str (nth_nat hx0) (by room))) (ev_str (y := [45]) (by decide +kernel)) cmp_eq1 rfl) (fun _ => ?_) fun q => nomatch q
    refine ex_asgT (evs_call (as := [.str text, .int ((k1 + 1 : Nat) : Int)]) (by dictfold_shaped) (by dictfold_shaped) (by dictfold_shaped2) (ca_fn (hf2 _) (by room)) (fun _ _ => rfl)) (asg_pair (asg_name (by dictfold_puts) (asg_name (by dictfold_puts) (ex_nil ?_)))) (fun _ => rfl) rfl
    refine ex_expr (evs_meth (a := .own l) (as := [.tup [.str [c], .str [c']]]) (by dictfold_shaped) (isOf_list (LstAt.own (.head _))) m_append (by dictfold_shaped) (ca_append (.head _) .head (by unfold sizeLine; simp; lia))) ?_ hI
    refine ex_nil ⟨_, (by have := hs.lt; have := hs'.lt; simp at *; lia), w'', k2, acc ++ [(c, c')], l', _, _, _, hk2, hr'', by simp [hacc], by simp [rgAV]⟩
end
end
section
section
variable {T : TopCx} {S : FnS} {C : Cx T S} {σ σ' : Sig} {μ μ' : Sto} {a : Addr} {a' : AV}
theorem clip_nat (n k : Nat) : clipAt n (k : Int) = min k n := by
  have := clipAt_cast n (k : Int)
  rw [if_neg (by room)] at this
  lia
theorem slc_kn {α : Type} {l : List α} {k n : Nat} {i j : Int} (hi : i = k) (hj : j = ((k + n : Nat) : Int)) : slc l (some i) (some j) = (l.drop k).take n := by
  subst hi hj
  unfold slc slo shi
  simp only [Option.elim, clip_nat]
  rcases Nat.le_total k l.length with h | h
  · rw [Nat.min_eq_left h]
    rcases Nat.le_total (k + n) l.length with h2 | h2
    · rw [Nat.min_eq_left h2]; congr 1; lia
    · rw [Nat.min_eq_right h2, List.take_of_length_le (by simp), List.take_of_length_le (by simp; lia)]
  · rw [Nat.min_eq_right h, List.drop_of_length_le (Nat.le_refl _), List.drop_of_length_le h]; simp
theorem slc_dn {α : Type} {l w : List α} {k n : Nat} {i j : Int} (h : l.drop k = w) (hi : i = k) (hj : j = ((k + n : Nat) : Int)) : slc l (some i) (some j) = w.take n := by rw [slc_kn hi hj, h]
inductive RowT : Bool → Bool → List Nat → List (Option Rx) → Prop
  | fin {l} : RowT false l [41, 92, 90] []
  | opn {w row} : RowT true false w row → RowT false false (40 :: 63 :: 62 :: 46 :: 42 :: 63 :: w) (none :: row)
  | lst {w row} : RowT false true w row → RowT false false (46 :: 42 :: w) (none :: row)
  | nev {h l w row} : RowT h l w row → RowT h l (40 :: 63 :: 33 :: 41 :: w) (some (false, []) :: row)
  | any {h l w row} : w.head? ≠ some 42 → RowT h l w row → RowT h l (46 :: w) (some (true, []) :: row)
  | set {h l t w post r row} : (t = false → w.head? ≠ some 94) → Rgs post w r → r ≠ [] → RowT h l post row → RowT h l (91 :: (if t then 94 :: w else w)) (some (t, r) :: row)
  | cls {w row} : (w.take 3 = [40, 63, 62] ∨ w.take 2 = [46, 42]) → RowT false false w row → RowT true false (41 :: w) row
  | sgn {h l b w c w' row} : b ≠ 40 → b ≠ 46 → b ≠ 91 → b ≠ 41 → Sgn (b :: w) c w' → RowT h l w' row → RowT h l (b :: w) (some (false, [(c, c)]) :: row)
theorem RowT.len3 {h l : Bool} {w : List Nat} {row : List (Option Rx)} (r : RowT h l w row) : 3 ≤ w.length ∧ row.length + 3 ≤ w.length + row.length := by
  suffices 3 ≤ w.length by lia
  induction r with
  | fin => decide
  | opn _ ih => simp only [List.length_cons]; lia
  | lst _ ih => simp only [List.length_cons]; lia
  | nev _ ih => simp only [List.length_cons]; lia
  | any _ _ ih => simp; lia
  | set _ g _ _ ih => have := g.suf.length_le; simp only [List.length_cons] at this ⊢; split <;> (try simp only [List.length_cons]) <;> lia
  | cls _ _ ih => simp; lia
  | sgn _ _ _ _ s _ ih => have := s.lt; simp at this ⊢; lia
noncomputable def oAV : Option Rx → AV
  | none => .none
  | some r => rxAV r
noncomputable def ifB : Stmt → List Stmt
  | .If _ b _ _ => b
  | _ => []
noncomputable def ifE : Stmt → List Stmt
  | .If _ _ e _ => e
  | _ => []
noncomputable def ifN (s : Stmt) : Nat → Stmt
  | 0 => s
  | n + 1 => (ifE (ifN s n)).getD 0 default
theorem ex_then {C : Cx T S} {st : List Stmt} {K : AF → Sig → Sto → Prop} (h : Ex C st σ μ K) : Ex C st σ μ (Then C [] K) := h.mono fun f σ μ k => by
  cases f with
  | next => exact ex_nil k
  | brk => exact k
  | cont => exact k
  | ret a => exact k
noncomputable abbrev rowI : Stmt := (forB 24 4).getD 0 default
noncomputable abbrev S_row : FnS := { names := [("text", false), ("row", false), ("held", false), ("last", false), ("k", false), ("item", false), ("sign", false)], globs := [("len", .builtin "len"), ("_law_set", .ref 149), ("_law_sign", .ref 142)] }
noncomputable def sgR (text : List Nat) (l : Addr) (held last : Bool) (k : Nat) (v1 v2 : AV) : Sig := [("text", .str text), ("row", .own l), ("held", .bool held), ("last", .bool last), ("k", .int k), ("item", v1), ("sign", v2)]
noncomputable def rc1 (w : List Nat) (h l : Bool) : Bool := (w.take 6 == [40, 63, 62, 46, 42, 63]) && (!h && !l)
noncomputable def rc2 (w : List Nat) (h l : Bool) : Bool := (w.take 2 == [46, 42]) && (!h && !l)
noncomputable def rc3 (w : List Nat) : Bool := w.take 4 == [40, 63, 33, 41]
noncomputable def rc6 (b : Nat) (w : List Nat) (h : Bool) : Bool := decide (b = 41) && (h && ((w.take 3 == [40, 63, 62]) || (w.take 2 == [46, 42])))
set_option maxHeartbeats 2000000 in
theorem row_turn {C : Cx T S_row} {text w : List Nat} {b : Nat} {l : Addr} {held last : Bool} {k : Nat} {v1 v2 : AV} {K : AF → Sig → Sto → Prop} (hk : text.drop k = b :: w) (hl : text.length < 2 ^ 20)
    (h1 : rc1 (b :: w) held last = true → Ex C (ifB (ifN rowI 0)) (sgR text l held last k v1 v2) μ K)
    (h2 : rc1 (b :: w) held last = false → rc2 (b :: w) held last = true → Ex C (ifB (ifN rowI 1)) (sgR text l held last k v1 v2) μ K)
    (h3 : rc1 (b :: w) held last = false → rc2 (b :: w) held last = false → rc3 (b :: w) = true → Ex C (ifB (ifN rowI 2)) (sgR text l held last k v1 v2) μ K)
    (h4 : rc1 (b :: w) held last = false → rc2 (b :: w) held last = false → rc3 (b :: w) = false → b = 46 → Ex C (ifB (ifN rowI 3)) (sgR text l held last k v1 v2) μ K)
    (h5 : rc1 (b :: w) held last = false → rc2 (b :: w) held last = false → rc3 (b :: w) = false → b ≠ 46 → b = 91 → Ex C (ifB (ifN rowI 4)) (sgR text l held last k v1 v2) μ K)
    (h6 : rc1 (b :: w) held last = false → rc2 (b :: w) held last = false → rc3 (b :: w) = false → b ≠ 46 → b ≠ 91 → rc6 b w held = true → Ex C (ifB (ifN rowI 5)) (sgR text l held last k v1 v2) μ K)
    (h7 : rc1 (b :: w) held last = false → rc2 (b :: w) held last = false → rc3 (b :: w) = false → b ≠ 46 → b ≠ 91 → rc6 b w held = false → Ex C (ifE (ifN rowI 5)) (sgR text l held last k v1 v2) μ K) :
    Ex C (forB 24 4) (sgR text l held last k v1 v2) μ K := by
  unfold sgR at *
  have hb0 : text[k]? = some b := by have := get_drop hk 0; simpa using this
  have hk1 : text.drop (k + 1) = w := by rw [drop_add hk]; rfl
  have hsl : text.length < 2 ^ 24 := by room
  refine ex_if (b := rc1 (b :: w) held last) (evt_bool (ala (evt_cmp (evs_slice (by dictfold_shaped) (evo_some (by dictfold_shaped)) (evo_some (by dictfold_shaped)) (slcs (slc_dn hk rfl (n := 6) rfl) hsl)) (ev_str (y := [40, 63, 62, 46, 42, 63]) (by decide +kernel)) cmp_eqs rfl) (fun q => by simp only [rc1, q, Bool.false_and]) fun q => ala (x := !held) (by dictfold_shaped) (fun q2 => by simp only [rc1, q, q2]; rfl) fun q2 => ala (x := !last) (by dictfold_shaped) (fun q3 => by simp only [rc1, q, q2, q3]; rfl) fun q3 => ale (by simp only [rc1, q, q2, q3]; rfl))) (fun q => ex_then (h1 q)) fun q1 => ex_then ?_
  refine ex_if (b := rc2 (b :: w) held last) (evt_bool (ala (evt_cmp (evs_slice (by dictfold_shaped) (evo_some (by dictfold_shaped)) (evo_some (by dictfold_shaped)) (slcs (slc_dn hk rfl (n := 2) rfl) hsl)) (ev_str (y := [46, 42]) (by decide +kernel)) cmp_eqs rfl) (fun q => by simp only [rc2, q, Bool.false_and]) fun q => ala (x := !held) (by dictfold_shaped) (fun q2 => by simp only [rc2, q, q2]; rfl) fun q2 => ala (x := !last) (by dictfold_shaped) (fun q3 => by simp only [rc2, q, q2, q3]; rfl) fun q3 => ale (by simp only [rc2, q, q2, q3]; rfl))) (fun q => ex_then (h2 q1 q)) fun q2 => ex_then ?_
  refine ex_if (b := rc3 (b :: w)) (evt_cmp (evs_slice (by dictfold_shaped) (evo_some (by dictfold_shaped)) (evo_some (by dictfold_shaped)) (slcs (slc_dn hk rfl (n := 4) rfl) hsl)) (ev_str (y := [40, 63, 33, 41]) (by decide +kernel)) cmp_eqs rfl) (fun q => ex_then (h3 q1 q2 q)) fun q3 => ex_then ?_
  refine ex_if (b := decide (b = 46)) (evt_cmp (evs_item (by dictfold_shaped) (by dictfold_shaped) (itm_str (nth_nat hb0) (by room))) (ev_str (y := [46]) (by decide +kernel)) cmp_eq1 rfl) (fun q => ex_then (h4 q1 q2 q3 (of_decide_eq_true q))) fun q4 => ex_then ?_
  refine ex_if (b := decide (b = 91)) (evt_cmp (evs_item (by dictfold_shaped) (by dictfold_shaped) (itm_str (nth_nat hb0) (by room))) (ev_str (y := [91]) (by decide +kernel)) cmp_eq1 rfl) (fun q => ex_then (h5 q1 q2 q3 (of_decide_eq_false q4) (of_decide_eq_true q))) fun q5 => ex_then ?_
  refine ex_if (b := rc6 b w held) (evt_bool (ala (x := decide (b = 41)) (evt_cmp (evs_item (by dictfold_shaped) (by dictfold_shaped) (itm_str (nth_nat hb0) (by room))) (ev_str (y := [41]) (by decide +kernel)) cmp_eq1 rfl) (fun q => by simp only [rc6, q, Bool.false_and]) fun q => ala (x := held) (by dictfold_shaped) (fun q2 => by simp only [rc6, q, q2]; rfl) fun q2 => ala (x := (w.take 3 == [40, 63, 62]) || (w.take 2 == [46, 42])) (evt_bool (alo (evt_cmp (evs_slice (by dictfold_shaped) (evo_some (by dictfold_shaped)) (evo_some (by dictfold_shaped)) (slcs (slc_dn hk1 (i := ((k + 1 : Nat) : Int)) rfl (n := 3) rfl) hsl)) (ev_str (y := [40, 63, 62]) (by decide +kernel)) cmp_eqs rfl) (fun q3 => by simp only [q3]; rfl) fun q3 => alo (evt_cmp (evs_slice (by dictfold_shaped) (evo_some (by dictfold_shaped)) (evo_some (by dictfold_shaped)) (slcs (slc_dn hk1 (i := ((k + 1 : Nat) : Int)) rfl (n := 2) rfl) hsl)) (ev_str (y := [46, 42]) (by decide +kernel)) cmp_eqs rfl) (fun q4 => by simp only [q3, q4]; rfl) fun q4 => alf (by simp only [q3, q4]; rfl))) (fun q3 => by simp only [rc6, q, q2, q3]; rfl) fun q3 => ale (by simp only [rc6, q, q2, q3]; rfl)))
    (fun q => ex_then (h6 q1 q2 q3 (of_decide_eq_false q4) (of_decide_eq_false q5) q)) fun q6 => ex_then (h7 q1 q2 q3 (of_decide_eq_false q4) (of_decide_eq_false q5) q6)
end
end
section
section
variable {T : TopCx} {S : FnS} {C : Cx T S} {σ σ' : Sig} {μ μ' : Sto} {a : Addr} {a' : AV}
theorem RowT.len {h l : Bool} {w : List Nat} {row : List (Option Rx)} (r : RowT h l w row) : row.length ≤ w.length := by
  induction r with
  | fin => simp
  | opn _ ih => simp only [List.length_cons]; lia
  | lst _ ih => simp only [List.length_cons]; lia
  | nev _ ih => simp only [List.length_cons]; lia
  | any _ _ ih => simp; lia
  | set _ g _ _ ih => have := g.suf.length_le; simp only [List.length_cons] at this ⊢; split <;> (try simp only [List.length_cons]) <;> lia
  | cls _ _ ih => simp; lia
  | sgn _ _ _ _ s _ ih => have := s.lt; simp at this ⊢; lia
noncomputable def whT (i j : Nat) : Expr := match (fbody i).getD j default with
  | .While t .. => t
  | _ => default
inductive WRw (text : List Nat) (row0 : List (Option Rx)) (l : Addr) (μ : Sto) : Nat → Sig → Sto → Prop
  | mk (w : List Nat) (kk : Nat) (held last : Bool) (acc rest : List (Option Rx)) (v1 v2 : AV) (μ₁ : Sto) (hk : text.drop kk = w) (hr : RowT held last w rest) (hacc : row0 = acc ++ rest) (e : μ₁ = (l, acc.map oAV) :: μ) : WRw text row0 l μ w.length (sgR text l held last kk v1 v2) μ₁
set_option maxHeartbeats 4000000 in
theorem fn_row {d : Nat} {text w0 : List Nat} {row0 : List (Option Rx)} (hd1 : 2 ≤ d) (h : text.drop 4 = w0) (hr0 : RowT false false w0 row0) (hl : text.length < 2 ^ 20) :
    Fn T (.ref 156) (d + 1) [.str text] μ (.lst (row0.map oAV)) μ := by
  refine fn_intro (S := S_row) (σ₀ := [("text", .str text), ("row", .un), ("held", .un), ("last", .un), ("k", .un), ("item", .un), ("sign", .un)]) (i := 24) (params := ["text"]) (by decide) (by decide +kernel) rfl (by simp) rfl fun nd C hC hI => ?_
  have hdC := Nat.le_trans hd1 (Nat.le_of_eq hC.symm)
  refine ex_assignN (evn_list evl_nil) (fun l => (by dictfold_puts)) fun l => ?_
  refine ex_let (by dictfold_shaped) (by dictfold_puts) (ex_let (by dictfold_shaped) (by dictfold_puts) (ex_let (by dictfold_shaped) (by dictfold_puts) ?_))
  refine ex_while (WRw text row0 l μ) (n := w0.length) ⟨w0, 4, false, false, [], row0, _, _, _, h, hr0, rfl, rfl⟩ ?_
  have hw0l : w0.length < 2 ^ 20 := by rw [← h]; simp; lia
  rintro n σ μ₁ ⟨w, kk, held, last, acc, rest, v1, v2, _, hk, hr, hacc, rfl⟩
  have h3 := hr.len3.1
  have hdk := drop_len hk (by room)
  have hrl := hr.len
  have hacl : acc.length < 2 ^ 20 := by have := hr0.len; rw [hacc] at this; simp at this; lia
  have cond : ∀ b : Bool, decide (3 < w.length) = b → EvT C (whT 24 4) (sgR text l held last kk v1 v2) ((l, acc.map oAV) :: μ) b ((l, acc.map oAV) :: μ) := fun b hb => by
    have e : decide ((kk : Int) < ((text.length : Nat) : Int) - 3) = b := by rw [← hb, ← hdk, Bool.eq_iff_iff]; simp; lia
    rw [← e]
    unfold sgR
    exact evt_cmp (a := .int kk) (b := .int (((text.length : Nat) : Int) - 3)) (by dictfold_shaped) (evs_bin (a := .int ((text.length : Nat) : Int)) (evs_call (by dictfold_shaped) (by dictfold_shaped) (by dictfold_shaped2) (ca_lens rfl (by room)) (fun _ _ => rfl)) (by dictfold_shaped) op_sub) cmp_lt rfl
  cases hr with
  | fin =>
    refine ⟨false, cond _ (by decide), (fun q => nomatch q), fun _ => ex_nil ?_⟩
    unfold sgR
    refine ex_freeze (σ' := [("text", .str text), ("row", .lst (acc.map oAV)), ("held", .bool false), ("last", .bool last), ("k", .int kk), ("item", v1), ("sign", v2)]) (by sl_close) (FzM.refl _ _ _) ?_
    refine ex_ret (a := .lst (acc.map oAV)) (evs_ife (b := false) (by dictfold_shaped) (fun q => nomatch q) fun _ => (by dictfold_shaped)) ⟨?_, List.Sublist.refl _⟩
    rw [hacc, List.append_nil]
  | @opn w' row' hr' =>
    refine ⟨true, cond _ (decide_eq_true (by have := hr'.len3.1; simp only [List.length_cons] at *; lia)), (fun _ => row_turn (b := 40) hk hl (fun _ => ?_) (fun  q _ => (by first | exact (Bool.false_ne_true q).elim | exact (Bool.false_ne_true q.symm).elim | exact absurd q (by simp [rc1, rc2, rc3, rc6]))) (fun  q _ _ => (by first | exact (Bool.false_ne_true q).elim | exact (Bool.false_ne_true q.symm).elim | exact absurd q (by simp [rc1, rc2, rc3, rc6]))) (fun  q _ _ _ => (by first | exact (Bool.false_ne_true q).elim | exact (Bool.false_ne_true q.symm).elim | exact absurd q (by simp [rc1, rc2, rc3, rc6]))) (fun  q _ _ _ _ => (by first | exact (Bool.false_ne_true q).elim | exact (Bool.false_ne_true q.symm).elim | exact absurd q (by simp [rc1, rc2, rc3, rc6]))) (fun  q _ _ _ _ _ => (by first | exact (Bool.false_ne_true q).elim | exact (Bool.false_ne_true q.symm).elim | exact absurd q (by simp [rc1, rc2, rc3, rc6]))) (fun  q _ _ _ _ _ => (by first | exact (Bool.false_ne_true q).elim | exact (Bool.false_ne_true q.symm).elim | exact absurd q (by simp [rc1, rc2, rc3, rc6])))), fun q => nomatch q⟩
    unfold sgR
    refine ex_expr (evs_meth (a := .own l) (as := [.none]) (by dictfold_shaped) (isOf_list (LstAt.own (.head _))) m_append (by dictfold_shaped) (ca_append (.head _) .head (by unfold sizeLine; simp; lia))) ?_ hI
    refine ex_let (by dictfold_shaped) (by dictfold_puts) (ex_aug_int (i := kk) (j := 6) (by dictfold_has) (by dictfold_shaped) (by dictfold_puts) (ex_nil ?_))
    exact ⟨_, (by simp only [List.length_cons]; lia), w', kk + 6, true, false, acc ++ [none], row', _, _, _, (by rw [drop_add hk]; rfl), hr', by simp [hacc], by simp [oAV, rxAV, rgAV]⟩
  | @lst w' row' hr' =>
    refine ⟨true, cond _ (decide_eq_true (by have := hr'.len3.1; simp only [List.length_cons] at *; lia)), (fun _ => row_turn (b := 46) hk hl (fun  q => (by first | exact (Bool.false_ne_true q).elim | exact (Bool.false_ne_true q.symm).elim | exact absurd q (by simp [rc1, rc2, rc3, rc6]))) (fun _ _ => ?_) (fun _ q _ => (by first | exact (Bool.false_ne_true q).elim | exact (Bool.false_ne_true q.symm).elim | exact absurd q (by simp [rc1, rc2, rc3, rc6]))) (fun _ q _ _ => (by first | exact (Bool.false_ne_true q).elim | exact (Bool.false_ne_true q.symm).elim | exact absurd q (by simp [rc1, rc2, rc3, rc6]))) (fun _ q _ _ _ => (by first | exact (Bool.false_ne_true q).elim | exact (Bool.false_ne_true q.symm).elim | exact absurd q (by simp [rc1, rc2, rc3, rc6]))) (fun _ q _ _ _ _ => (by first | exact (Bool.false_ne_true q).elim | exact (Bool.false_ne_true q.symm).elim | exact absurd q (by simp [rc1, rc2, rc3, rc6]))) (fun _ q _ _ _ _ => (by first | exact (Bool.false_ne_true q).elim | exact (Bool.false_ne_true q.symm).elim | exact absurd q (by simp [rc1, rc2, rc3, rc6])))), fun q => nomatch q⟩
    unfold sgR
    refine ex_expr (evs_meth (a := .own l) (as := [.none]) (by dictfold_shaped) (isOf_list (LstAt.own (.head _))) m_append (by dictfold_shaped) (ca_append (.head _) .head (by unfold sizeLine; simp; lia))) ?_ hI
    refine ex_let (by dictfold_shaped) (by dictfold_puts) (ex_aug_int (i := kk) (j := 2) (by dictfold_has) (by dictfold_shaped) (by dictfold_puts) (ex_nil ?_))
    exact ⟨_, (by simp only [List.length_cons]; lia), w', kk + 2, false, true, acc ++ [none], row', _, _, _, (by rw [drop_add hk]; rfl), hr', by simp [hacc], by simp [oAV, rxAV, rgAV]⟩
  | @nev _ _ w' row' hr' =>
    refine ⟨true, cond _ (decide_eq_true (by have := hr'.len3.1; simp only [List.length_cons] at *; lia)), (fun _ => row_turn (b := 40) hk hl (fun  q => (by first | exact (Bool.false_ne_true q).elim | exact (Bool.false_ne_true q.symm).elim | exact absurd q (by simp [rc1, rc2, rc3, rc6]))) (fun _ q => (by first | exact (Bool.false_ne_true q).elim | exact (Bool.false_ne_true q.symm).elim | exact absurd q (by simp [rc1, rc2, rc3, rc6]))) (fun _ _ _ => ?_) (fun _ _ q _ => (by first | exact (Bool.false_ne_true q).elim | exact (Bool.false_ne_true q.symm).elim | exact absurd q (by simp [rc1, rc2, rc3, rc6]))) (fun _ _ q _ _ => (by first | exact (Bool.false_ne_true q).elim | exact (Bool.false_ne_true q.symm).elim | exact absurd q (by simp [rc1, rc2, rc3, rc6]))) (fun _ _ q _ _ _ => (by first | exact (Bool.false_ne_true q).elim | exact (Bool.false_ne_true q.symm).elim | exact absurd q (by simp [rc1, rc2, rc3, rc6]))) (fun _ _ q _ _ _ => (by first | exact (Bool.false_ne_true q).elim | exact (Bool.false_ne_true q.symm).elim | exact absurd q (by simp [rc1, rc2, rc3, rc6])))), fun q => nomatch q⟩
    unfold sgR
    refine ex_expr (evs_meth (a := .own l) (as := [.tup [.bool false, .lst []]]) (by dictfold_shaped) (isOf_list (LstAt.own (.head _))) m_append (evl_cons (ev_tuple (evl_cons (by dictfold_shaped) (evl_cons ev_nil evl_nil))) evl_nil) (ca_append (.head _) .head (by unfold sizeLine; simp; lia))) ?_ hI
    refine ex_aug_int (i := kk) (j := 4) (by dictfold_has) (by dictfold_shaped) (by dictfold_puts) (ex_nil ?_)
    exact ⟨_, (by simp only [List.length_cons]; lia), w', kk + 4, held, last, acc ++ [some (false, [])], row', _, _, _, (by rw [drop_add hk]; rfl), hr', by simp [hacc], by simp [oAV, rxAV, rgAV]⟩
  | @any _ _ w' row' hx hr' =>
    have hx2 : ¬ (w'.take 1 = [42]) := by cases w' with | nil => simp | cons x w' => simpa using hx
    refine ⟨true, cond _ (decide_eq_true (by have := hr'.len3.1; simp only [List.length_cons] at *; lia)), (fun _ => row_turn (b := 46) hk hl (fun  q => absurd q (by simp [rc1, rc2, rc3, rc6, hx2])) (fun _ q => absurd q (by simp [rc1, rc2, rc3, rc6, hx2])) (fun _ _ q => absurd q (by simp [rc1, rc2, rc3, rc6, hx2])) (fun _ _ _ _ => ?_) (fun _ _ _ q _ => absurd q (by simp [rc1, rc2, rc3, rc6, hx2])) (fun _ _ _ q _ _ => absurd q (by simp [rc1, rc2, rc3, rc6, hx2])) (fun _ _ _ q _ _ => absurd q (by simp [rc1, rc2, rc3, rc6, hx2]))), fun q => nomatch q⟩
    unfold sgR
    refine ex_expr (evs_meth (a := .own l) (as := [.tup [.bool true, .lst []]]) (by dictfold_shaped) (isOf_list (LstAt.own (.head _))) m_append (evl_cons (ev_tuple (evl_cons (by dictfold_shaped) (evl_cons ev_nil evl_nil))) evl_nil) (ca_append (.head _) .head (by unfold sizeLine; simp; lia))) ?_ hI
    refine ex_aug_int (i := kk) (j := 1) (by dictfold_has) (by dictfold_shaped) (by dictfold_puts) (ex_nil ?_)
    exact ⟨_, (by simp only [List.length_cons]; lia), w', kk + 1, held, last, acc ++ [some (true, [])], row', _, _, _, (by rw [drop_add hk]; rfl), hr', by simp [hacc], by simp [oAV, rxAV, rgAV]⟩
  | @set _ _ t w' post r row' ht hg hrn hr' =>
    have hset : post.length + 3 < (91 :: (if t = true then 94 :: w' else w')).length ∨ 3 < (91 :: (if t = true then 94 :: w' else w')).length ∧ post.length < (91 :: (if t = true then 94 :: w' else w')).length := by
      have := hr'.len3.1
      have := hg.suf.length_le
      simp only [List.length_cons] at *
      split <;> (try simp only [List.length_cons]) <;> lia
    obtain ⟨k', hk', hkk', hf⟩ := fn_set (T := T) (d := 1) (by room) hk ht hg hrn hl
    refine ⟨true, cond _ (decide_eq_true (by have := hset; simp only [List.length_cons] at *; lia)), (fun _ => row_turn (b := 91) hk hl (fun  q => (by first | exact (Bool.false_ne_true q).elim | exact (Bool.false_ne_true q.symm).elim | exact absurd q (by simp [rc1, rc2, rc3, rc6]))) (fun _ q => (by first | exact (Bool.false_ne_true q).elim | exact (Bool.false_ne_true q.symm).elim | exact absurd q (by simp [rc1, rc2, rc3, rc6]))) (fun _ _ q => (by first | exact (Bool.false_ne_true q).elim | exact (Bool.false_ne_true q.symm).elim | exact absurd q (by simp [rc1, rc2, rc3, rc6]))) (fun _ _ _ q => (by first | exact (Bool.false_ne_true q).elim | exact (Bool.false_ne_true q.symm).elim | exact absurd q (by simp [rc1, rc2, rc3, rc6]))) (fun _ _ _ _ _ => ?_) (fun _ _ _ _ q _ => (by first | exact (Bool.false_ne_true q).elim | exact (Bool.false_ne_true q.symm).elim | exact absurd q (by simp [rc1, rc2, rc3, rc6]))) (fun _ _ _ _ q _ => (by first | exact (Bool.false_ne_true q).elim | exact (Bool.false_ne_true q.symm).elim | exact absurd q (by simp [rc1, rc2, rc3, rc6])))), fun q => nomatch q⟩
    unfold sgR
    refine ex_asgT (evs_call (as := [.str text, .int kk]) (by dictfold_shaped) (by dictfold_shaped) (by dictfold_shaped2) (ca_fn (hf _) (by room)) (fun _ _ => rfl)) (asg_pair (asg_name (by dictfold_puts) (asg_name (by dictfold_puts) ?_))) (fun _ => rfl) rfl
    refine ex_expr (evs_meth (a := .own l) (as := [rxAV (t, r)]) (by dictfold_shaped) (isOf_list (LstAt.own (.head _))) m_append (by dictfold_shaped) (ca_append (.head _) .head (by unfold sizeLine; simp; lia))) ?_ hI
    refine ex_nil ?_
    exact ⟨_, (by have := hset; lia), post, k', held, last, acc ++ [some (t, r)], row', _, _, _, (hk'), hr', by simp [hacc], by simp [oAV, rxAV, rgAV]⟩
  | @cls w' row' hx hr' =>
    refine ⟨true, cond _ (decide_eq_true (by have := hr'.len3.1; simp only [List.length_cons] at *; lia)), (fun _ => row_turn (b := 41) hk hl (fun  q => absurd q (by rcases hx with e | e <;> simp [rc1, rc2, rc3, rc6, e])) (fun _ q => absurd q (by rcases hx with e | e <;> simp [rc1, rc2, rc3, rc6, e])) (fun _ _ q => absurd q (by rcases hx with e | e <;> simp [rc1, rc2, rc3, rc6, e])) (fun _ _ _ q => absurd q (by rcases hx with e | e <;> simp [rc1, rc2, rc3, rc6, e])) (fun _ _ _ _ q => absurd q (by rcases hx with e | e <;> simp [rc1, rc2, rc3, rc6, e])) (fun _ _ _ _ _ _ => ?_) (fun _ _ _ _ _ q  => absurd q (by rcases hx with e | e <;> simp [rc1, rc2, rc3, rc6, e]))), fun q => nomatch q⟩
    unfold sgR
    refine ex_let (by dictfold_shaped) (by dictfold_puts) (ex_aug_int (i := kk) (j := 1) (by dictfold_has) (by dictfold_shaped) (by dictfold_puts) (ex_nil ?_))
    exact ⟨_, (by simp only [List.length_cons]; lia), w', kk + 1, false, false, acc ++ [], rest, _, _, _, (by rw [drop_add hk]; rfl), hr', by simp [hacc], by simp [oAV, rxAV, rgAV]⟩
  | @sgn _ _ b w1 c w' row' h1 h2 h3' h4 hs hr' =>
    obtain ⟨k', hk', hkk', hf⟩ := fn_sign (T := T) (d := 1) hk hs hl
    refine ⟨true, cond _ (decide_eq_true (by have := hr'.len3.1; have := hs.lt; simp only [List.length_cons] at *; lia)), (fun _ => row_turn (b := b) hk hl (fun  q => absurd q (by simp [rc1, rc2, rc3, rc6, h1, h2, h3', h4])) (fun _ q => absurd q (by simp [rc1, rc2, rc3, rc6, h1, h2, h3', h4])) (fun _ _ q => absurd q (by simp [rc1, rc2, rc3, rc6, h1, h2, h3', h4])) (fun _ _ _ q => absurd q (by simp [rc1, rc2, rc3, rc6, h1, h2, h3', h4])) (fun _ _ _ _ q => absurd q (by simp [rc1, rc2, rc3, rc6, h1, h2, h3', h4])) (fun _ _ _ _ _ q => absurd q (by simp [rc1, rc2, rc3, rc6, h1, h2, h3', h4])) (fun _ _ _ _ _ _ => ?_)), fun q => nomatch q⟩
    unfold sgR
    refine ex_asgT (evs_call (as := [.str text, .int kk]) (by dictfold_shaped) (by dictfold_shaped) (by dictfold_shaped2) (ca_fn (hf _) (by room)) (fun _ _ => rfl)) (asg_pair (asg_name (by dictfold_puts) (asg_name (by dictfold_puts) ?_))) (fun _ => rfl) rfl
    refine ex_expr (evs_meth (a := .own l) (as := [.tup [.bool false, .lst [.tup [.str [c], .str [c]]]]]) (by dictfold_shaped) (isOf_list (LstAt.own (.head _))) m_append (by dictfold_shaped) (ca_append (.head _) .head (by unfold sizeLine; simp; lia))) ?_ hI
    refine ex_nil ?_
    exact ⟨_, (hs.lt), w', k', held, last, acc ++ [some (false, [(c, c)])], row', _, _, _, (hk'), hr', by simp [hacc], by simp [oAV, rxAV, rgAV]⟩
end
end
section
section
variable {T : TopCx} {S : FnS} {C : Cx T S} {B : Base} {s : Shared} {Z : Addr → Prop} {σ σ' : Sig} {μ μ' μ₁ μ₂ : Sto} {a : Addr} {a' : AV} {e : Expr} {xs rs : List AV} {x : Str} {p1 p2 p3 p4 pos : Pos} {rest : List Stmt} {K : AF → Sig → Sto → Prop}
theorem ex_assignNN {σ' : Addr → Sig} (he : EvN C e σ μ xs μ₁) (U : ∀ r, Up x AV (.own r) σ (σ' r)) (h : ∀ l r, Ex C rest (σ' r) ((r, [.own l]) :: (l, xs) :: μ₁) K)
    (hs : ∀ env, swapsWith (.List [e] p2) (some (.Name x p1)) pos.line env = pure false := by intro _; rfl) (hst : ∀ env, starEach [e] env = (false, eval e env) :: starEach [] env := by intro _; rfl) (hro : S.ro = false := by rfl) :
    Ex C (.Assign [.Name x p1] (.List [e] p2) pos :: rest) σ μ K := by
  refine ex_cons ⟨fun ok B s Z R => ?_⟩
  refine wpAny_Assign_Name (Q := fun fl s' => PostX C B s.heap Z (Then C rest K) fl s') (wpAny_mono (Q := fun v s' => ∃ Z' l r, v = .ref r ∧ Rp C B s' Z' σ ((r, [.own l]) :: (l, xs) :: μ₁) ∧ Le s.heap Z s'.heap Z') ?_ ?_ fun _ _ x => x) (hs _)
  · refine List_ ?_
    rw [hst]
    show wpAny _ _ (spliced ((false, eval e C.env) :: backTo p2 (starEach [] C.env))) _ _ s
    refine Calls.spliced_cons (wpAny_mono (he.run ok B s Z R) ?_ fun _ _ x => x)
    rintro v s₁ ⟨Z₁, l, rfl, R₁, L₁⟩
    refine Calls.spliced_nil ?_
    refine wpAny_newObj_type ?_ (by show 1 ≤ sizeLine; decide)
    exact ⟨Z₁, l, _, rfl, R₁.pushOwn (.one (.own l)), L₁.trans (le_push _ _ _)⟩
  · rintro v s₁ ⟨Z₁, l, r, rfl, R₁, L₁⟩
    refine wpAny_mono (store_name ok hro R₁ (U r) (.own r)) ?_ fun _ _ x => x
    rintro _ s₂ ⟨R₂, L₂⟩
    exact ⟨Z₁, σ' r, _, .next, R₂, L₁.trans L₂, .next, h l r⟩
theorem ex_appN {r : Addr} (hx : (x, .own r) ∈ σ) (he : EvN C e σ μ xs μ) (hm : (r, rs) ∈ μ) (hl : rs.length < sizeLine) (h : ∀ l, l ≠ r → Ex C rest σ ((l, xs) :: upd r (rs ++ [.own l]) μ) K) (hi : interactive C.env = false)
    (hfew : ∀ pos env, ((backTo pos (starEach [e] env)).all (fun x => !x.1) && (backToKw pos (keywordEach [] env)).all (fun x => x.1.isSome)
      && decide ([e].length + ([] : List Keyword).length + (if ([] : List Keyword).isEmpty then 0 else 1) < 30)) = true := by intro _ _; rfl)
    (hline : (p2.endLine == p3.line) = true := by rfl)
    (hp : ∀ pos env, (backTo pos (starEach [e] env)).any (·.1) = false := by intro _ _; rfl)
    (hs : ∀ env, swapsWith (.Call (.Attribute (.Name x p1) "append" p2) [e] [] p3) none p4.line env = pure false := by intro _; rfl) (hst : ∀ env, starEach [e] env = (false, eval e env) :: starEach [] env := by intro _; rfl) :
    Ex C (.Expr (.Call (.Attribute (.Name x p1) "append" p2) [e] [] p3) p4 :: rest) σ μ K := by
  refine ex_cons ⟨fun ok B s Z R => ?_⟩
  refine wpAny_Expr (Q := fun fl s' => PostX C B s.heap Z (Then C rest K) fl s') (wpAny_mono (Q := fun v s' => ∃ Z' l, l ≠ r ∧ Rp C B s' Z' σ ((l, xs) :: upd r (rs ++ [.own l]) μ) ∧ Le s.heap Z s'.heap Z' ∧ v = .none) ?_ ?_ fun _ _ x => x) hi (hs _)
  · refine wpAny_Call_method rfl (hfew _ _) hline m_append.pa m_append.slot m_append.ty (wpAny_mono ((ev_name (C := C) (pos := p1) hx rfl).run ok B s Z R) ?_ fun _ _ x => x)
    rintro v s₁ ⟨Z₁, R₁, L₁, V₁⟩
    obtain ⟨h1, h2⟩ := isOf_list (C := C) (LstAt.own hm) B s₁ Z₁ v R₁ V₁
    refine ⟨h1, h2, ?_⟩
    refine callWith_any (hp _ _) ?_
    rw [hst]
    show wpAny _ _ (spliced ((false, eval e C.env) :: backTo p3 (starEach [] C.env))) _ _ s₁
    refine Calls.spliced_cons (wpAny_mono (he.run ok B s₁ Z₁ R₁) ?_ fun _ _ x => x)
    rintro w s₂ ⟨Z₂, l, rfl, R₂, L₂⟩
    refine Calls.spliced_nil ?_
    have hlr : l ≠ r := fun q => by
      have h3 := R₂.nd
      rw [List.map_cons, List.nodup_cons] at h3
      exact h3.1 (q ▸ List.mem_map_of_mem (f := (·.1)) hm)
    refine ⟨fun Q' h => wpAny_pure (h _), ?_⟩
    refine wpAny_mono ((ca_append (C := C) (σ := σ) (a := .own l) (.tail _ hm) (.tail (upd_up hm)) hl).run ok B s₂ Z₂ [v, .ref l] R₂ (.cons (V₁.mono L₂) (.one (.own l)))) ?_ fun _ _ x => x
    rintro u s₃ ⟨Z₃, R₃, L₃, V₃⟩
    obtain rfl := V₃.inone
    exact ⟨Z₃, l, hlr, R₃, L₁.trans (L₂.trans L₃), rfl⟩
  · rintro v s₁ ⟨Z₁, l, hlr, R₁, L₁, rfl⟩
    exact ⟨Z₁, σ, _, .next, R₁, L₁, .next, h l hlr⟩
theorem ex_perm (h : μ'.Perm μ) (k : Ex C rest σ μ' K) : Ex C rest σ μ K := ⟨fun ok B s Z R => k.run ok B s Z (R.perm h)⟩
noncomputable def splitR : List Rx → List (Option Rx) → List (List Rx)
  | cur, [] => [cur]
  | cur, none :: r => cur :: splitR [] r
  | cur, some x :: r => splitR (cur ++ [x]) r
noncomputable abbrev S_runs : FnS := { names := [("text", false), ("runs", false), ("item", false)], globs := [("_law_row", .ref 156)] }
inductive WRu (text : List Nat) (row0 : List (Option Rx)) (r : Addr) (μ : Sto) (as : List AV) : Sig → Sto → Prop
  | mk (rest : List (Option Rx)) (done : List (List Rx)) (cur : List Rx) (l : Addr) (v : AV) (μ₁ : Sto) (has : as = rest.map oAV) (hsp : done ++ splitR cur rest = splitR [] row0) (hlen : done.length + cur.length + rest.length ≤ row0.length)
      (hpm : μ₁.Perm ((l, cur.map rxAV) :: (r, done.map runAV ++ [.own l]) :: μ)) : WRu text row0 r μ as ([("text", .str text), ("runs", .own r), ("item", v)] : Sig) μ₁
set_option maxHeartbeats 2000000 in
theorem fn_runs {d : Nat} {text w0 : List Nat} {row0 : List (Option Rx)} (hd1 : 3 ≤ d) (h : text.drop 4 = w0) (hr0 : RowT false false w0 row0) (hl : text.length < 2 ^ 20) :
    Fn T (.ref 168) (d + 1) [.str text] μ (.lst ((splitR [] row0).map runAV)) μ := by
  refine fn_intro (S := S_runs) (σ₀ := [("text", .str text), ("runs", .un), ("item", .un)]) (i := 26) (params := ["text"]) (by decide) (by decide +kernel) rfl (by simp) rfl fun nd C hC hI => ?_
  have hdC := Nat.le_trans hd1 (Nat.le_of_eq hC.symm)
  refine ex_assignNN (evn_list evl_nil) (fun r => (by dictfold_puts)) fun l0 r => ?_
  have hrl : row0.length < 2 ^ 20 := by have := hr0.len; have h2 : w0.length ≤ text.length := by rw [← h]; simp
                                        lia
  refine ex_for (tl := true) (as := row0.map oAV) (μ₁ := (r, [.own l0]) :: (l0, []) :: μ) (WRu text row0 r μ)
    (evi_list (evs_call (by dictfold_shaped) (by dictfold_shaped) (by dictfold_shaped2) (ca_fn (fn_row (d := 2) (by room) h hr0 hl) (by room)) (fun _ _ => rfl))) ⟨row0, [], [], l0, _, _, rfl, rfl, by simp, List.Perm.swap _ _ _⟩ ?_ ?_
  · rintro a as σ μ₁ ⟨rest, done, cur, l, v, _, has, hsp, hlen, hpm⟩
    cases rest with
    | nil => cases has
    | cons x rest =>
      cases has
      simp only [List.length_cons] at hlen
      refine asg_name (by dictfold_puts) (ex_perm hpm.symm ?_)
      refine ex_if (b := x.isNone) (evt_cmp (a := oAV x) (ev_name (by dictfold_has) (by rcases x with _ | ⟨_, _⟩ <;> rfl)) (by dictfold_shaped) (by
        cases x with
        | none => exact cmp_is_none (a := .none) trivial
        | some p => exact cmp_is_none (a := rxAV p) trivial) rfl) (fun hb => ?_) fun hb => ?_
      · have hx : x = none := by simpa using hb
        subst hx
        refine ex_freeze (σ' := [("text", .str text), ("runs", .own r), ("item", oAV none)]) (by sl_close) (.cons (FzL.app (FzL.refl _ _ _) (.cons .own .nil)) (FzM.refl _ _ _)) ?_
        refine ex_appN (by dictfold_has) (evn_list evl_nil) (.head _) (by unfold sizeLine; simp; lia) (fun l' hl' => ?_) hI
        refine ex_nil (ex_nil ⟨rest, done ++ [cur], [], l', _, _, rfl, by rw [← hsp]; simp [splitR], by simp; lia, ?_⟩)
        simp [upd, runAV]
      · cases x with
        | none => cases hb
        | some x =>
          refine ex_expr (evs_meth (a := .own l) (as := [rxAV x]) (evs_item (a := .own r) (by dictfold_shaped) (ev_neg (by dictfold_shaped)) (itm_list (LstAt.own (.tail _ (.head _))) nth_neg1 (by simp; lia))) (isOf_list (LstAt.own (.head _))) m_append (evl_cons (ev_name (show (_, rxAV x) ∈ _ from .tail _ (.tail _ (.head _))) rfl) evl_nil) (ca_append (.head _) .head (by unfold sizeLine; simp; lia))) ?_ hI
          refine ex_nil (ex_nil ⟨rest, done, cur ++ [x], l, _, _, rfl, by rw [← hsp]; simp [splitR], by simp; lia, ?_⟩)
          simp
  · rintro σ μ₁ ⟨rest, done, cur, l, v, _, has, hsp, hlen, hpm⟩
    cases rest with
    | cons x rest => cases has
    | nil =>
      refine ex_nil (ex_perm hpm.symm ?_)
      refine ex_freeze (σ' := [("text", .str text), ("runs", .own r), ("item", v)]) (by sl_close) (.cons (FzL.app (FzL.refl _ _ _) (.cons .own .nil)) (FzM.refl _ _ _)) ?_
      refine ex_freeze (σ' := [("text", .str text), ("runs", .lst (done.map runAV ++ [.lst (cur.map rxAV)])), ("item", v)]) (by sl_close) (FzM.refl _ _ _) ?_
      refine ex_ret (a := .lst (done.map runAV ++ [.lst (cur.map rxAV)])) (by dictfold_shaped) ⟨?_, List.Sublist.refl _⟩
      rw [← hsp]; simp [splitR, runAV]
end
end
section
open PySem PySem.W PySem.Calls PyProof.Rows PySem.Spec
noncomputable abbrev bndOf (l : Addr) : Obj := { cls := .type "builtin_function_or_method", data := .fields #[.builtin "list.append", .ref l] }
theorem md_slot : Slot "method_descriptor" "__get__" "method_descriptor.__get__" :=
  .of (owner := "method_descriptor") (n := "__get__") (by rw [typeLookup_type, builtinLookup_eq_fast]; kernel_rfl) (by decide +kernel) (by decide +kernel) (by decide +kernel)
    (by first | exact .inl (by decide +kernel) | exact .inr (by decide +kernel)) (by rw [isSubtype_type]; kernel_rfl)
theorem md_entry : entryFor table "method_descriptor.__get__" = some Builtin.«method_descriptor.__get__» := entryFor_of_tree (by kernel_rfl)
theorem md_args (a b c : Value) : argsOk "method_descriptor.__get__" ⟨[a, b, c], []⟩ := by unfold argsOk; kernel_rfl
theorem la_set : typeLookup (.type "method_descriptor") "__set__" = pure none := by rw [typeLookup_type, builtinLookup_eq_fast]; kernel_rfl
theorem la_del : typeLookup (.type "method_descriptor") "__delete__" = pure none := by rw [typeLookup_type, builtinLookup_eq_fast]; kernel_rfl
section
variable {prog : Program} {w : World} {M : Model} {A : Around} {E : Value → Shared → Prop} {s : Shared}
theorem run_mdget {l : Addr} {xs : Array Value} {n : Nat} {P : Fin → Shared → Prop} (ho : s.heap.get? l = some (listOf xs n)) (h : P (.done (.ret (.ref s.heap.objs.size))) { s with heap := s.heap.push (bndOf l) }) :
    wpAny M A (Builtin.«method_descriptor.__get__» ⟨[.builtin "list.append", .ref l, .type "list"], []⟩) P E s := by
  unfold Builtin.«method_descriptor.__get__»
  refine wpAny_bind (wpAny_of_eq (a := (.builtin "list.append", some (.ref l), some (.type "list"))) (by first | rfl | kernel_rfl) ?_)
  have hsub : isSubtype (.type "list") (.type "list") = pure true := by rw [isSubtype_type]; kernel_rfl
  have hto : typeOf (.type "list") = pure (.type "type") := by first | rfl | kernel_rfl
  have hT : s.TypeIs (.ref l) "list" := ⟨_, ho, rfl⟩
  have nc : Manifest.toldItsClass.contains "list.append" = false := by decide +kernel
  simp only [nc]
  refine KFB.if_not rfl ?_
  refine wpAny_bind ?_
  refine wpAny_bind (wpAny_of_eq (a := (("append" : Str), Value.type "list")) (by kernel_rfl) ?_)
  refine wpAny_bind (wpAny_isInstance hT hsub ?_)
  refine KFB.if_not rfl ?_
  refine wpAny_pure ?_
  exact wpAny_bind (wpAny_newObj_type (wpAny_pure h))
end
end
section
section
variable {prog : Program} {w : World} {A : Around} {E : Value → Shared → Prop} {h : Heap} {g : Array GenState} {d : Drawn} {t : Nat} {os : OsState} {a : Addr}
theorem lk_list_app : typeLookup (.type "list") "append" = pure (some (.builtin "list.append")) := by rw [typeLookup_type, builtinLookup_eq_fast]; kernel_rfl
theorem mdT : (⟨h, g, d, t, os⟩ : Shared).TypeIs (.builtin "list.append") "method_descriptor" := type_list_append
theorem app_get {xs : Array Value} {n : Nat} {R : Result → Shared → Prop} (hx : h.get? a = some (listOf xs n)) (hq : R (.ok (.ret (.ref h.objs.size))) ⟨h.push (bndOf a), g, d, t, os⟩) :
    codeAny (model prog w) A (.call (.builtin "method_descriptor.__get__") ⟨[.builtin "list.append", .ref a, .type "list"], []⟩) R ⟨h, g, d, t, os⟩ :=
  codeAny_call_builtin md_slot.plain md_entry (md_slot.check _ _ _ _ _ _ _ _ mdT (md_args _ _ _) (run_mdget (s := ⟨h, g, d, t, os⟩) hx hq))
theorem app_entry {xs : Array Value} {n : Nat} {tk : Tok} {Q : Fin → Shared → Prop} (hx : h.get? a = some (listOf xs n)) (hq : Q (.done (.ret (.ref h.objs.size))) ⟨h.push (bndOf a), g, d, t, os⟩) :
    wpAny (model prog w) A (Builtin.«object.__getattribute__» ⟨[.ref a, .str "append" tk], []⟩) Q E ⟨h, g, d, t, os⟩ := by
  have hT : (⟨h, g, d, t, os⟩ : Shared).TypeIs (.ref a) "list" := ⟨_, hx, rfl⟩
  have hT5 : (⟨h, g, d, t, os⟩ : Shared).TypeIs (.builtin "list.append") "method_descriptor" := mdT
  have f4 := lk_list_app
  have f5 := type_list_append
  have f6 := md_slot.lookup
  have f7 := la_set
  have f8 := la_del
  repeat (any_goals (first | assumption | wp_step))
  refine app_get hx ?_
  repeat (any_goals (first | assumption | wp_step))
theorem app_call {xs : Array Value} {n : Nat} {tk : Tok} {R : Result → Shared → Prop} (hx : h.get? a = some (listOf xs n)) (hq : R (.ok (.ret (.ref h.objs.size))) ⟨h.push (bndOf a), g, d, t, os⟩) :
    codeAny (model prog w) A (.call (.builtin "list.__getattribute__") ⟨[.ref a, .str "append" tk], []⟩) R ⟨h, g, d, t, os⟩ :=
  codeAny_call_builtin F.slot_list_getattribute.plain F.entry_list_ga (F.slot_list_getattribute.check _ _ _ _ _ _ _ _ (show (⟨h, g, d, t, os⟩ : Shared).TypeIs (.ref a) "list" from ⟨_, hx, rfl⟩) (F.args_list_getattribute_2 _ _) (app_entry hx hq))
theorem getAttr_app {xs : Array Value} {n : Nat} {Q : Value → Shared → Prop} (hx : h.get? a = some (listOf xs n)) (hq : Q (.ref h.objs.size) ⟨h.push (bndOf a), g, d, t + 1, os⟩) :
    wpAny (model prog w) A (getAttr (.ref a) "append" true) Q E ⟨h, g, d, t, os⟩ := by
  have hT : ∀ tk', (⟨h, g, d, tk', os⟩ : Shared).TypeIs (.ref a) "list" := fun _ => ⟨_, hx, rfl⟩
  have f2 := F.slot_list_getattribute.lookup
  have f3 := F.slot_list_getattribute.bind (.ref a)
  unfold getAttr getAttrBy
  repeat (any_goals (first | assumption | exact hT _ | wp_step))
  refine app_call hx ?_
  repeat (any_goals (first | assumption | exact hT _ | wp_step))
theorem ls_module : isSubtype (.type "list") (.type "module") = pure false := by rw [isSubtype_type]; kernel_rfl
theorem sig_app : Manifest.signature? "list.append" = some ⟨.oneArg, "list.append", "append", .self, [⟨"object", .posOnly, true⟩]⟩ := by kernel_rfl
theorem kind_app : builtinKind "list.append" = some .method := by first | kernel_rfl | decide +kernel
theorem app_args {v : Value} : Bind.checkArgs "list.append" ⟨.oneArg, "list.append", "append", .self, [⟨"object", .posOnly, true⟩]⟩ ⟨[.ref a, v], []⟩ = pure () := by
  have := args_list_append (.ref a) v
  unfold argsOk at this
  rw [sig_app] at this
  exact this
theorem app_check {M : Model} {s : Shared} {v : Value} {Q : Unit → Shared → Prop} {its : Array Value} {n : Nat} (ho : s.heap.get? a = some (listOf its n)) (h : Q () s) : wpAny M A (checkBoundCall "list.append" ⟨[.ref a, v], []⟩) Q E s := by
  have hT : s.TypeIs (.ref a) "list" := ⟨_, ho, rfl⟩
  unfold checkBoundCall
  simp only [sig_app, kind_app]
  rw [if_neg (by decide)]
  refine wpAny_bind (wpAny_isInstance hT ls_module ?_)
  rw [if_neg (by decide +kernel)]
  have hi : ∀ {Q' : Bool → Shared → Prop}, Q' false s → wpAny M A (isType (.ref a)) Q' E s := fun {Q'} hq => by
    show wpAny M A (loadHead a >>= _) _ _ _
    repeat (any_goals (first | assumption | wp_step))
  refine wpAny_bind (hi ?_)
  rw [if_neg (by decide)]
  refine wpAny_bind (wpAny_typeOf hT ?_)
  exact wpAny_of_eq app_args h
theorem app_quiet {as : Args} : (Code.builtin "list.append" as).quiet = true := Code.quiet_builtin _ (by decide +kernel)
theorem bound_append {m D : Addr} {o : Obj} {vs : Array Value} {its : Array Value} {n : Nat} {x : Value} {s : Shared} {Q : Value → Shared → Prop} (hm : s.heap.get? m = some o) (hc : o.cls = .type "builtin_function_or_method") (hd : o.data = .fields vs) (h0 : vs[0]? = some (.builtin "list.append")) (h1 : vs[1]? = some (.ref D))
    (ho : s.heap.get? D = some { cls := .type "list", data := .seq its n })
    (h : ∀ h', Heap.SameBut D s.heap h' → h'.get? D = some { cls := .type "list", data := .seq (its.push x) (n + 1) } → Q .none { s with heap := h' })
    (hsz : its.size ≤ sizeLine := by size_fits) : wpAny (model prog w) A (call (.ref m) [x]) Q E s := by
  refine wpAny_call (codeAny_of_tree ?_)
  show wpAny _ A.in1 (callAny (.ref m) ⟨[x], []⟩) _ _ s
  simp only [callAny]
  refine wpAny_bind (wpAny_load hm ?_)
  simp only [hd, hc, h0, h1, show (Value.type "builtin_function_or_method" == Value.type "method" || Value.type "builtin_function_or_method" == Value.type "builtin_function_or_method" || Value.type "builtin_function_or_method" == Value.type "method-wrapper") = true by decide, if_true]
  refine KFB.if_so (by decide) ?_
  refine wpAny_bind (app_check (s := s) ho ?_)
  refine wpAny_bind (wpAny_pure (wpAny_pure ?_))
  refine ⟨app_quiet, codeAny_builtin entry_list_append ?_⟩
  show wpAny _ _ (updateSeq D (·.push x) >>= fun _ => ret .none) _ _ s
  refine wpAny_bind ?_
  refine wpAny_updateSeq ho rfl (wpAny_pure (h _ (Heap.SameBut.update ..) ?_))
  rw [Heap.get?_update_self _ ho (by rw [mapSeq_push]; rfl), mapSeq_push]
end
section
variable {T : TopCx} {S : FnS} {C : Cx T S} {B : Base} {s : Shared} {Z : Addr → Prop} {σ σ' : Sig} {μ μ' μ₁ μ₂ : Sto} {a : Addr} {c : AV} {e : Expr} {es : List Expr} {xs rs : List AV} {x : Str} {p1 p2 p3 p4 pos : Pos} {rest : List Stmt} {K : AF → Sig → Sto → Prop}
theorem ev_app (hx : (x, .own a) ∈ σ) (hm : (a, xs) ∈ μ) : EvD C (.Attribute (.Name x p1) "append" p2) σ μ (.app a) := by
  refine ⟨fun ok B s Z R => ?_⟩
  rw [arm_eval_Attribute]
  refine wpAny_bind (wpAny_mono ((ev_name (C := C) (pos := p1) hx rfl).run ok B s Z R) ?_ fun _ _ x => x)
  rintro v s₁ ⟨Z₁, R₁, L₁, V₁⟩
  obtain rfl := V₁.iown
  obtain ⟨_, _, _, vs, n, eo, r⟩ := R₁.own _ hm
  refine wpAny_bind (wpAny_standAt (wpAny_bind (wpAny_holding ?_)))
  obtain ⟨hp, g, d, t, os⟩ := s₁
  refine getAttr_app eo ?_
  refine wpAny_bind (wpAny_pure (wpAny_pure ?_))
  have R₂ := (R₁.pushZ ok.top (bndOf a)).toks (t + 1)
  exact ⟨_, R₂, L₁.trans (le_pushZ _ _ _ _), .app a (.inr rfl) (Heap.get?_push_size _ rfl) rfl rfl rfl rfl⟩
theorem keeps_app {h : Heap} {Z : Addr → Prop} {v : Value} (V : VR h Z v (.app a)) : ∃ m o vs, v = .ref m ∧ h.get? m = some o ∧ o.cls = .type "builtin_function_or_method" ∧ o.data = .fields vs ∧ vs[0]? = some (.builtin "list.append") ∧ vs[1]? = some (.ref a) := by
  cases V with
  | app _ z e h1 h2 h3 h4 => exact ⟨_, _, _, rfl, e, h1, h2, h3, h4⟩
theorem evs_add (hx : (x, .app a) ∈ σ) (ha : EvL C es σ μ [c] μ₁) (hm : (a, xs) ∈ μ₁) (U : Up a (List AV) (xs ++ [c]) μ₁ μ') (hl : xs.length < sizeLine)
    (hp : ∀ pos env, (backTo pos (starEach es env)).any (·.1) = false := by intro _ _; rfl) : EvS C (.Call (.Name x p1) es [] pos) σ μ .none μ' := by
  refine ⟨fun ok B s Z R => ?_⟩
  refine wpAny_Call_Name_kw (wpAny_mono ((ev_name (C := C) (pos := p1) hx rfl).run ok B s Z R) ?_ fun _ _ x => x)
  rintro v s₁ ⟨Z₁, R₁, L₁, V₁⟩
  show wpAny _ _ (callWith pos v [] (backTo pos (starEach es C.env)) []) _ _ _
  refine callWith_any (hp _ _) (wpAny_mono (ha.run ok B s₁ Z₁ pos R₁) ?_ fun _ _ x => x)
  rintro vs s₂ ⟨Z₂, R₂, L₂, V₂⟩
  obtain ⟨m, o, fs, rfl, e0, h1, h2, h3, h4⟩ := keeps_app (V₁.mono L₂)
  refine ⟨fun Q' hq => ?_, ?_⟩
  · unfold keeperOf
    refine wpAny_bind (wpAny_load e0 ?_)
    simp only [h1, h2]
    rw [if_pos (by decide)]
    exact wpAny_pure (hq _)
  · obtain ⟨_, rfl, W⟩ := V₂.i1
    obtain ⟨_, _, _, ws, n, eo, r⟩ := R₂.own _ hm
    have hlen : ws.length = xs.length := r.length
    refine bound_append e0 h1 h2 h3 h4 eo (fun h' hs ho => ?_) (by rw [List.size_toArray]; lia)
    rw [List.push_toArray] at ho
    obtain ⟨R', L⟩ := R₂.setOwn ok.top U hs.extBut ho (r.append (.one W))
    exact ⟨Z₂, R', L₁.trans (L₂.trans L), .none⟩
end
end
section
theorem ob_mro : mroOf (.type "object") = pure [.type "object"] := by rw [mroOf_type]; kernel_rfl
theorem ob_lookup_new : typeLookup (.type "object") "__new__" = pure (some (.builtin "object.__new__")) := by rw [typeLookup_type, builtinLookup_eq_fast]; kernel_rfl
theorem ob_slot_init : Slot "object" "__init__" "object.__init__" :=
  .of (owner := "object") (n := "__init__") (by rw [typeLookup_type, builtinLookup_eq_fast]; kernel_rfl) (by decide +kernel) (by decide +kernel) (by decide +kernel)
    (by first | exact .inl (by decide +kernel) | exact .inr (by decide +kernel)) (by rw [isSubtype_type]; kernel_rfl)
theorem ob_called : TypeCalled "object" "object.__new__" "object.__init__" :=
  ⟨by decide +kernel, by decide +kernel, ⟨_, _, ob_mro⟩, madeBy_type ob_mro ob_lookup_new (by decide +kernel), by decide +kernel, by rw [isSubtype_type]; kernel_rfl, ob_slot_init⟩
theorem ob_typeCall : checkTypeCall "object" ⟨[], []⟩ = pure () := by kernel_rfl
theorem ob_newCall : checkBuiltinCall "object.__new__" ⟨[.type "object"], []⟩ = pure () := by kernel_rfl
theorem ob_entry : entryFor table "object.__new__" = some Builtin.«object.__new__» := by first | exact entryFor_of_fast (by kernel_rfl) | exact entryFor_of_tree (by kernel_rfl)
theorem ob_args (v : Value) : argsOk "object.__init__" ⟨[v], []⟩ := by unfold argsOk; kernel_rfl
noncomputable abbrev plainObj : Obj := { cls := .type "object", data := .plain }
theorem ob_here : Bind.madeHere "object.__new__" (.type "object") = pure () := by kernel_rfl
theorem ob_new : Meets (Builtin.«object.__new__» ⟨[.type "object"], []⟩) (fun _ R s => R (.ok (.ret (.ref s.heap.objs.size))) { s with heap := s.heap.push plainObj }) :=
  .of_wp fun prog w A R s h => by
    unfold Builtin.«object.__new__»
    refine wpAny_bind (wpAny_of_eq (a := true) rfl ?_)
    refine KFB.if_not rfl ?_
    dsimp only
    refine KFB.if_not (by decide +kernel) ?_
    refine wpAny_bind (wpAny_of_eq ob_here ?_)
    refine KFB.if_not (by decide +kernel) ?_
    refine KFB.if_not (by decide +kernel) ?_
    refine wpAny_bind (wpAny_pure ?_)
    refine wpAny_bind (wpAny_newObj_type ?_)
    refine KFB.if_not (by decide +kernel) ?_
    exact wpAny_pure ⟨_, rfl, h⟩
theorem ob_init {v : Value} : Meets (Builtin.«object.__init__» ⟨[v], []⟩) (fun _ R s => R (.ok (.ret .none)) s) := .of_wp fun prog w A R s h => wpAny_pure ⟨_, rfl, h⟩
section
variable {prog : Program} {w : World} {A : Around} {E : Value → Shared → Prop} {s : Shared}
theorem call_object {Q : Value → Shared → Prop} (h : Q (.ref s.heap.objs.size) { s with heap := s.heap.push plainObj }) : wpAny (model prog w) A (call (.type "object") []) Q E s := by
  refine callType_meets ob_called ob_typeCall ob_newCall ob_entry F.entry_object_init ob_new (Q₁ := fun obj s₁ => obj = .ref s.heap.objs.size ∧ s₁ = { s with heap := s.heap.push plainObj }) ⟨rfl, rfl⟩ ?_
  rintro obj s₁ ⟨rfl, rfl⟩
  exact ⟨⟨_, Heap.get?_push_size _ rfl, rfl⟩, ob_args _, _, ob_init, rfl, h⟩
end
section
variable {T : TopCx} {S : FnS} {C : Cx T S} {B : Base} {s : Shared} {Z : Addr → Prop} {σ : Sig} {μ μ' μ₁ μ₂ : Sto} {x y : Str} {p1 p2 p3 p4 pos : Pos} {rest : List Stmt} {K : AF → Sig → Sto → Prop}
theorem ex_object {σ' : Addr → Sig} (hf : EvD C (.Name y p2) σ μ (.val (.type "object"))) (U : ∀ st, Up x AV (.val (.ref st)) σ (σ' st)) (h : ∀ st, Ex C rest (σ' st) μ K)
    (hs : ∀ env, swapsWith (.Call (.Name y p2) [] [] p3) (some (.Name x p1)) pos.line env = pure false := by intro _; rfl) (hro : S.ro = false := by rfl) :
    Ex C (.Assign [.Name x p1] (.Call (.Name y p2) [] [] p3) pos :: rest) σ μ K := by
  refine ex_cons ⟨fun ok B s Z R => ?_⟩
  refine wpAny_Assign_Name (Q := fun fl s' => PostX C B s.heap Z (Then C rest K) fl s') (wpAny_mono (Q := fun v s' => ∃ Z' st, v = .ref st ∧ Rp C B s' Z' σ μ ∧ Le s.heap Z s'.heap Z') ?_ ?_ fun _ _ x => x) (hs _)
  · refine wpAny_Call_Name_kw (wpAny_mono (hf.run ok B s Z R) ?_ fun _ _ x => x)
    rintro v s₁ ⟨Z₁, R₁, L₁, V₁⟩
    obtain rfl := V₁.ival
    show wpAny _ _ (callWith p3 (.type "object") [] (backTo p3 (starEach [] C.env)) []) _ _ _
    refine callWith_any rfl (Calls.spliced_nil ⟨fun Q' hq => wpAny_pure (hq _), ?_⟩)
    refine call_object ⟨Z₁, _, rfl, R₁.push _, L₁.trans (le_push _ _ _)⟩
  · rintro v s₁ ⟨Z₁, st, rfl, R₁, L₁⟩
    refine wpAny_mono (store_name ok hro R₁ (U st) (.val _)) ?_ fun _ _ x => x
    rintro _ s₂ ⟨R₂, L₂⟩
    exact ⟨Z₁, σ' st, _, .next, R₂, L₁.trans L₂, .next, h st⟩
end
end
section
open PySem.Builtin PySem.Builtin.Str in
theorem gives_find2 (x y : Str) (i j : Nat) (t u v v' : Tok) : Gives («str.find» ⟨[.str x t, .str y u, .int (i : Nat) v, .int (j : Nat) v'], []⟩) (.int (match occurrences x y i (min j x.length) 1 with | k :: _ => (k : Int) | [] => -1)) := by
  have h1 : (max 0 (if (i : Int) < 0 then (i : Int) + x.length else (i : Int))).toNat = i := by rw [if_neg (by room)]; lia
  have h2 : (max 0 (if (j : Int) < 0 then (j : Int) + x.length else (j : Int))).toNat = j := by rw [if_neg (by room)]; lia
  show Gives (match occurrences x y (max 0 (if (i : Int) < 0 then (i : Int) + x.length else (i : Int))).toNat (min (max 0 (if (j : Int) < 0 then (j : Int) + x.length else (j : Int))).toNat x.length) 1 with | k :: _ => retInt k | [] => (do rule "str.find.not-found"; retInt (-1))) _
  rw [h1, h2]
  cases occurrences x y i (min j x.length) 1 with
  | nil => exact .rule (.of_eq rfl)
  | cons k _ => exact .of_eq rfl
theorem args_find4 (a b c d : Value) : argsOk "str.find" ⟨[a, b, c, d], []⟩ := by unfold argsOk; kernel_rfl
theorem subAt_one (x : List Nat) (c i : Nat) : Builtin.Str.subAt (stv x) (stv [c]) i = decide (x[i]? = some c) := by
  unfold Builtin.Str.subAt
  rw [Bool.eq_iff_iff]
  simp only [beq_iff_eq, decide_eq_true_eq]
  show x.toArray.extract i (i + 1) = #[c] ↔ _
  constructor
  · intro h
    have := congrArg (fun a : Array Nat => a[0]?) h
    simpa [Array.getElem?_extract] using this
  · intro h
    obtain ⟨hl, e⟩ := List.getElem?_eq_some_iff.mp h
    apply Array.ext
    · simp; lia
    · intro k h1 h2
      simp at h2
      subst h2
      simp [e]
theorem find_hit {x : List Nat} {c lo hi : Nat} (h : x[lo]? = some c) (hh : lo < hi) : ∃ r, Builtin.Str.occurrences (stv x) (stv [c]) lo hi 1 = lo :: r := by
  rw [StrLaws.occ_eq]
  have e : hi + 1 - lo = (hi - lo) + 1 := by room
  rw [e, List.range'_succ, List.forIn_cons]
  have hs : Builtin.Str.subAt (stv x) (stv [c]) lo = true := by rw [subAt_one]; simp [h]
  have hb : StrLaws.occBody (stv x) (stv [c]) hi 1 lo (#[], lo) = pure (ForInStep.yield (#[lo], lo + 1)) := by
    unfold StrLaws.occBody
    rw [if_pos ⟨⟨⟨Nat.zero_lt_one, Nat.le_refl _⟩, by show lo + 1 ≤ hi; lia⟩, hs⟩]
    rfl
  rw [hb]
  have keep : ∀ (l : List Nat) (n : Nat), (forIn l ((#[lo] : Array Nat), n) (StrLaws.occBody (stv x) (stv [c]) hi 1)).run.fst = #[lo] := by
    intro l
    induction l with
    | nil => intro n; rfl
    | cons a l ih =>
      intro n
      rw [List.forIn_cons]
      unfold StrLaws.occBody
      rw [if_neg (by intro q; exact absurd q.1.1.1 (Nat.lt_irrefl 1))]
      exact ih n
  exact ⟨[], by
    show ((forIn (List.range' (lo + 1) (hi - lo)) ((#[lo] : Array Nat), lo + 1) (StrLaws.occBody (stv x) (stv [c]) hi 1)).run.fst).toList = _
    rw [keep]⟩
theorem find_miss {x : List Nat} {c lo hi : Nat} (h : ∀ i, lo ≤ i → i < hi → x[i]? ≠ some c) : Builtin.Str.occurrences (stv x) (stv [c]) lo hi 1 = [] := by
  rw [StrLaws.occ_eq]
  have := (StrLaws.occ_none (stv x) (stv [c]) hi (List.range' lo (hi + 1 - lo)) lo (fun i hi' => by rw [List.mem_range'] at hi'; obtain ⟨k, _, rfl⟩ := hi'; lia)).mpr ?_
  · rw [this]
  · rintro i hi' ⟨h1, h2⟩
    rw [List.mem_range'] at hi'
    obtain ⟨k, _, rfl⟩ := hi'
    rw [subAt_one] at h2
    have h1' : lo + 1 * k + 1 ≤ hi := h1
    exact h _ (by room) (by room) (of_decide_eq_true h2)
section
variable {T : TopCx} {S : FnS} {C : Cx T S} {B : Base} {s : Shared} {Z : Addr → Prop} {σ : Sig} {μ μ' μ₁ μ₂ : Sto} {x y : Str} {p1 p2 p3 p4 pos : Pos} {rest : List Stmt} {K : AF → Sig → Sto → Prop} {a : AV}
theorem m_find : MethT "str" "find" "str.find" := ⟨F.plainAttrs_str, F.slot_str_find, F.type_str_find⟩
theorem ca_find {x : List Nat} {c lo hi : Nat} {r : Int} (hr : (match Builtin.Str.occurrences (stv x) (stv [c]) lo (min hi (stv x).length) 1 with | k :: _ => (k : Int) | [] => -1) = r) : CallA C (.builtin "str.find") [.str x, .str [c], .int (lo : Nat), .int (hi : Nat)] σ μ (.int r) μ := ⟨fun ok B s Z vs R V => by
  obtain ⟨_, _, rfl, V1, q1⟩ := V.icons
  obtain ⟨_, _, _, rfl, V2, V3, V4⟩ := q1.i3
  obtain ⟨_, rfl⟩ := V1.istr
  obtain ⟨_, rfl⟩ := V2.istr
  obtain ⟨_, rfl⟩ := V3.iint
  obtain ⟨_, rfl⟩ := V4.iint
  refine call_gives F.slot_str_find (typeIs_str _ _ _) F.entry_str_find (args_find4 _ _ _ _) (gives_find2 _ _ lo hi _ _ _ _) ?_
  rw [hr]
  exact PostS.tok R _ (.int _ _)⟩
theorem ca_isstr {x : List Nat} : CallA C (.builtin "isinstance") [.str x, .val (.type "str")] σ μ (.bool true) μ := ⟨fun ok B s Z vs R V => by
  obtain ⟨_, _, rfl, V1, V2⟩ := V.i2
  obtain ⟨_, rfl⟩ := V1.istr
  obtain rfl := V2.ival
  exact call_isinstance_yes (typeIs_str _ _ _) (by first | rfl | kernel_rfl) (by rw [isSubtype_type]; kernel_rfl) (PostS.mk0 R (.bool _))⟩
theorem m_replace : MethT "str" "replace" "str.replace" := ⟨F.plainAttrs_str, F.slot_str_replace, F.type_str_replace⟩
theorem evs_replace {o : Expr} {x y z r : List Nat} {k1 k2 : Nat} {Y W : Str} (ho : EvS C o σ μ (.str x) μ₁) (hY : Y = stv y) (hW : W = stv z) (hr : Txt.replace (stv x) (stv y) (stv z) = stv r) (hyz : (stv y == stv z) = false) (hx : x.length ≤ 1000) (hz : z.length ≤ 10)
    (hbase : ∀ env, attributeBase o "replace" env (eval o env) = eval o env := by intro _; rfl)
    (hline : (p1.endLine == p4.line) = true := by rfl) : EvS C (.Call (.Attribute o "replace" p1) [.Constant (.str Y) k1 p2, .Constant (.str W) k2 p3] [] p4) σ μ (.str r) μ₁ := by
  subst hY hW
  refine ⟨fun ok B s Z R => ?_⟩
  refine wpAny_Call_method (hbase _) rfl hline m_replace.pa m_replace.slot m_replace.ty (wpAny_mono (ho.run ok B s Z R) ?_ fun _ _ x => x)
  rintro v s₁ ⟨Z₁, R₁, L₁, V₁⟩
  obtain ⟨h1, h2⟩ := isOf_str (C := C) (x := x) B s₁ Z₁ v R₁ V₁
  refine ⟨h1, h2, ?_⟩
  refine callWith_any rfl ?_
  refine Calls.spliced_cons (Calls.Constant_str (k := k1) (pos := p2) ?_)
  refine Calls.spliced_cons (Calls.Constant_str (k := k2) (pos := p3) ?_)
  refine Calls.spliced_nil ⟨fun Q' h => wpAny_pure (h _), ?_⟩
  obtain ⟨_, rfl⟩ := V₁.istr
  refine wpAny_up (SC.replace (Nat.ne_of_gt R₁.tk) (Nat.succ_ne_zero _) (Nat.ne_of_lt (Nat.lt_succ_self _)) hyz ?_ fun t' k hle => ?_)
  · have e1 : (stv x).length = x.length := by simp [Str.length]
    have e2 : (stv z).length = z.length := by simp [Str.length]
    rw [e1, e2]
    have : (x.length + 1) * z.length ≤ (1000 + 1) * 10 := Nat.mul_le_mul (by room) hz
    lia
  · rw [hr]
    exact ⟨Z₁, R₁.toks _ (Nat.lt_of_lt_of_le (Nat.succ_pos _) hle), L₁, .str _ _⟩
end
end
section
theorem ke_look : isSubtype (.type "KeyError") (.type "LookupError") = pure true := by rw [isSubtype_type]; kernel_rfl
section
variable {prog : Program} {w : World} {A : Around} {E : Value → Shared → Prop} {s : Shared}
open PySem.Builtin PySem.Builtin.Str in
theorem tl_hit {d : Addr} {f : Int → Option Value} {c : Nat} {y : Str} {t : Tok} {Q : Mapped → Shared → Prop} (hm : s.heap.MapOf (intKind prog w) d f) (hf : f (c : Int) = some (.str y t))
    (h : Q (.text y) { s with toks := s.toks + 2 }) : wpAny (model prog w) A (tableLookup (.ref d) c) Q E s := by
  unfold tableLookup
  refine wpAny_bind (wpAny_attempt (wpAny_bind (wpAny_mkInt ?_)))
  refine wpAny_getItem_of (knd := intKind prog w) (intKind_is _ _ _ _) (s := { s with toks := s.toks + 1 }) hm hf ?_
  dsimp only
  repeat (any_goals (first | assumption | wp_step))
open PySem.Builtin PySem.Builtin.Str in
theorem tl_miss {d : Addr} {f : Int → Option Value} {c : Nat} {Q : Mapped → Shared → Prop} (hd : (d == sysModules) = false) (hh : A.handled = none) (hm : s.heap.MapOf (intKind prog w) d f) (hf : f (c : Int) = none)
    (h : ∀ h' k, (∀ b o, s.heap.get? b = some o → h'.get? b = some o) → Q .keep { s with heap := h', toks := k }) : wpAny (model prog w) A (tableLookup (.ref d) c) Q E s := by
  unfold tableLookup
  refine wpAny_bind (wpAny_attempt (wpAny_bind (wpAny_mkInt ?_)))
  refine wpAny_getItem_missing_of (knd := intKind prog w) (intKind_is _ _ _ _) hd hh (s := { s with toks := s.toks + 1 }) hm hf fun h' e hx => ?_
  dsimp only
  obtain ⟨ob, t, he, hc, _⟩ := hx.there
  refine wpAny_bind (wpAny_isInstance (T := "KeyError") ⟨ob, he, hc⟩ ke_look ?_)
  rw [if_pos rfl]
  exact wpAny_bind (wpAny_rule (wpAny_pure (h _ _ hx.keeps)))
open PySem.Builtin PySem.Builtin.Str in
theorem tr_hit {d : Addr} {f : Int → Option Value} {c : Nat} {y : Str} {t u : Tok} {Q : Fin → Shared → Prop} (hm : s.heap.MapOf (intKind prog w) d f) (hf : f (c : Int) = some (.str y t)) (hc : c < 128) (hy : y.length = 2)
    (h : ∀ t' k, Q (.done (.ret (.str y t'))) { s with toks := k }) : wpAny (model prog w) A (Builtin.«str.translate» ⟨[.str (stv [c]) u, .ref d], []⟩) Q E s := by
  unfold Builtin.«str.translate»
  refine wpAny_bind (wpAny_of_eq (a := (.str (stv [c]) u, stv [c], .ref d)) (by first | rfl | kernel_rfl) ?_)
  try dsimp only
  refine KFB.if_not rfl ?_
  have hfast : ((stv [c]).cps.all fun x => decide (x < 128)) = true := by simp [hc]
  rw [hfast]
  rw [List.forIn_toArray, List.forIn_cons]
  simp only [List.forIn_nil]
  refine wpAny_bind (wpAny_bind ?_)
  refine KFB.if_not (by decide +kernel) ?_
  try dsimp only
  rw [if_pos trivial]
  simp only [List.lookup_nil]
  refine wpAny_bind (tl_hit hm hf ?_)
  try dsimp only
  have hl1 : (y.length == 1) = false := by rw [hy]; rfl
  simp only [hl1, Bool.false_and, Bool.false_eq_true, if_false]
  refine wpAny_bind (wpAny_pure ?_)
  try dsimp only
  refine wpAny_bind (wpAny_rule ?_)
  refine wpAny_bind (tl_hit (s := { s with toks := s.toks + 2 }) hm hf ?_)
  try dsimp only
  refine wpAny_pure ?_
  try dsimp only
  refine wpAny_pure ?_
  try dsimp only
  have htl : tooLong (0 + y.length) = false := by rw [hy]; decide +kernel
  refine KFB.if_not htl ?_
  have hfold : (⟨List.foldl (fun acc p => acc ++ p.cps) #[] [y].reverse⟩ : Str) = y := by simp
  rw [hfold]
  exact wpAny_bind (wpAny_mkStr (wpAny_pure (h _ _)) (by rw [hy]; decide))
open PySem.Builtin PySem.Builtin.Str in
theorem tr_miss {d : Addr} {f : Int → Option Value} {c : Nat} {u : Tok} {Q : Fin → Shared → Prop} (hd : (d == sysModules) = false) (hh : A.handled = none) (hm : s.heap.MapOf (intKind prog w) d f) (hf : f (c : Int) = none) (hc : c < 128)
    (h : ∀ t' h' k, (∀ b o, s.heap.get? b = some o → h'.get? b = some o) → Q (.done (.ret (.str (stv [c]) t'))) { s with heap := h', toks := k }) : wpAny (model prog w) A (Builtin.«str.translate» ⟨[.str (stv [c]) u, .ref d], []⟩) Q E s := by
  unfold Builtin.«str.translate»
  refine wpAny_bind (wpAny_of_eq (a := (.str (stv [c]) u, stv [c], .ref d)) (by first | rfl | kernel_rfl) ?_)
  try dsimp only
  refine KFB.if_not rfl ?_
  have hfast : ((stv [c]).cps.all fun x => decide (x < 128)) = true := by simp [hc]
  rw [hfast]
  rw [List.forIn_toArray, List.forIn_cons]
  simp only [List.forIn_nil]
  refine wpAny_bind (wpAny_bind ?_)
  refine KFB.if_not (by decide +kernel) ?_
  try dsimp only
  rw [if_pos trivial]
  simp only [List.lookup_nil]
  refine wpAny_bind (tl_miss hd hh hm hf fun h' k hk => ?_)
  try dsimp only
  refine wpAny_bind (wpAny_pure ?_)
  try dsimp only
  refine wpAny_pure ?_
  try dsimp only
  refine wpAny_pure ?_
  try dsimp only
  refine KFB.if_not (by decide +kernel) ?_
  have hfold : (⟨List.foldl (fun acc p => acc ++ p.cps) #[] [(⟨#[c]⟩ : Str)].reverse⟩ : Str) = stv [c] := by simp
  rw [hfold]
  exact wpAny_bind (wpAny_mkStr (wpAny_pure (h _ _ _ hk)) (by show 1 ≤ sizeLine; decide))
end
section
variable {T : TopCx} {S : FnS} {C : Cx T S} {B : Base} {s : Shared} {Z : Addr → Prop} {σ : Sig} {μ μ' μ₁ μ₂ : Sto} {x y : Str} {p1 p2 p3 p4 pos : Pos} {rest : List Stmt} {K : AF → Sig → Sto → Prop} {a : AV}
theorem m_translate : MethT "str" "translate" "str.translate" := ⟨F.plainAttrs_str, F.slot_str_translate, F.type_str_translate⟩
noncomputable def esc (c : Nat) : List Nat := if c = 94 ∨ c = 92 then [92, c] else [c]
theorem ca_translate {c : Nat} (hc : c = 94 ∨ c = 92 ∨ c = 97 ∨ c = 33) : CallA C (.builtin "str.translate") [.str [c], .val (.ref 45)] σ μ (.str (esc c)) μ := ⟨fun ok B s Z vs R V => by
  obtain ⟨_, _, rfl, V1, V2⟩ := V.i2
  obtain ⟨_, rfl⟩ := V1.istr
  obtain rfl := V2.ival
  obtain ⟨f, hm, ⟨t1, h94⟩, ⟨t2, h92⟩, h97, h33⟩ := ok.top.map
  have hm' : s.heap.MapOf (intKind T.prog T.w) 45 f := by
    obtain ⟨o, es, ep, ho, r⟩ := hm
    exact ⟨o, es, ep, R.top _ _ ho, r⟩
  have hit : ∀ {y : Str} {t u : Tok}, f (c : Int) = some (.str y t) → y.length = 2 → y = stv (esc c) → c < 128 → wpAny (Md T) C.A (call (.builtin "str.translate") [.str (stv [c]) u, .ref 45]) (PostS C B σ μ s.heap Z (.str (esc c))) NoE s := fun {y t u} hf hy he hc => by
    refine wpAny_up (wpAny_call (codeAny_call_builtin F.slot_str_translate.plain F.entry_str_translate (F.slot_str_translate.check _ _ _ _ _ _ _ _ (typeIs_str _ _ _) (F.args_str_translate_2 _ _) ?_)))
    refine tr_hit hm' hf hc hy fun t' k => ?_
    intro hle
    rw [he]
    exact PostS.tok R _ (.str _ _) (Nat.lt_of_lt_of_le R.tk hle)
  have miss : ∀ {u : Tok}, f (c : Int) = none → esc c = [c] → c < 128 → wpAny (Md T) C.A (call (.builtin "str.translate") [.str (stv [c]) u, .ref 45]) (PostS C B σ μ s.heap Z (.str (esc c))) NoE s := fun {u} hf he hc => by
    refine wpAny_up (wpAny_call (codeAny_call_builtin F.slot_str_translate.plain F.entry_str_translate (F.slot_str_translate.check _ _ _ _ _ _ _ _ (typeIs_str _ _ _) (F.args_str_translate_2 _ _) ?_)))
    refine tr_miss (by decide +kernel) ok.hh hm' hf hc fun t' h' k hk => ?_
    intro hle
    rw [he]
    exact ⟨Z, R.grow (s' := { s with heap := h', toks := k }) hk rfl R.gens (Nat.lt_of_lt_of_le R.tk hle), Le.of_keep hk, .str _ _⟩
  rcases hc with rfl | rfl | rfl | rfl
  · exact hit h94 rfl rfl (by decide)
  · exact hit h92 rfl rfl (by decide)
  · exact miss h97 rfl (by decide)
  · exact miss h33 rfl (by decide)⟩
noncomputable abbrev S_escape : FnS := { names := [("pattern", false)], globs := [("isinstance", .builtin "isinstance"), ("str", .type "str"), ("_special_chars_map", .ref 45)] }
theorem fn_escape {d : Nat} {c : Nat} (hc : c = 94 ∨ c = 92 ∨ c = 97 ∨ c = 33) : Fn T (.ref 55) (d + 1) [.str [c]] μ (.str (esc c)) μ := by
  refine fn_intro (S := S_escape) (σ₀ := [("pattern", .str [c])]) (i := 6) (params := ["pattern"]) (by decide) (by decide +kernel) rfl (by simp) rfl fun nd C hC hI => ?_
  refine ex_if (b := true) (evt_val (a := .bool true) (evs_call (as := [.str [c], .val (.type "str")]) (by dictfold_shaped) (by dictfold_shaped) (by dictfold_shaped2) ca_isstr (fun _ _ => rfl)) tru_bool (fun _ => rfl)) (fun _ => ?_) fun q => nomatch q
  exact ex_ret (a := .str (esc c)) (evs_meth (a := .str [c]) (as := [.val (.ref 45)]) (by dictfold_shaped) isOf_str m_translate (by dictfold_shaped) (ca_translate hc)) ⟨rfl, List.Sublist.refl _⟩
end
end
section
section
variable {T : TopCx} {S : FnS} {C : Cx T S} {B : Base} {s : Shared} {Z : Addr → Prop} {σ : Sig} {μ μ' μ₁ μ₂ : Sto} {x y : Str} {p1 p2 p3 p4 pos : Pos} {rest : List Stmt} {K : AF → Sig → Sto → Prop} {a : AV}
theorem Rp.tabGrow (ok : C.Ok) (R : Rp C B s Z σ μ) {h' : Heap} {tk : Nat} {ps : Array Value} (hs : Heap.ExtBut tabA s.heap h') (ht : h'.get? tabA = some (tabObj ps)) (hps : TriplesOk ps.toList) (hle : s.toks ≤ tk) :
    Rp C B { s with heap := h', toks := tk } Z σ μ ∧ Le s.heap Z h' Z := by
  have L : Le s.heap Z h' Z := fun b z => ⟨z, fun o e => hs b o (R.zok b z).2 e⟩
  refine ⟨?_, L⟩
  exact {
    top := fun b o e => hs b o (fun q => by rw [q, ok.top.notab] at e; cases e) (R.top b o e)
    tab := ⟨ps, ht, hps⟩
    os := R.os
    gens := R.gens
    keep := fun b o e h1 h2 => let ⟨o', e', k⟩ := R.keep b o e h1 h2; ⟨o', hs b o' h2 e', k⟩
    z0 := R.z0
    zn := R.zn
    zok := fun b z => ⟨let ⟨⟨o, e, n⟩, _⟩ := R.zok b z; ⟨o, (L b z).2 o e, n⟩, (R.zok b z).2⟩
    own := fun p hp => let ⟨h1, h2, h3, vs, n, e, r⟩ := R.own p hp; ⟨h1, h2, h3, vs, n, hs _ _ h2.2 e, r.mono L⟩
    nd := R.nd
    tk := Nat.lt_of_lt_of_le R.tk hle
    keys := R.keys
    frs := R.frs
    loc := R.loc
    ns := let ⟨m, hn, r⟩ := R.ns; ⟨m, hn.extBut hs R.loc.big.2, fun x a h1 h2 => (r x a h1 h2).imp id fun ⟨v, e, q⟩ => ⟨v, e, q.mono L⟩⟩
    cel := fun x c e => let ⟨h1, h0, h2, v₀, hc, r⟩ := R.cel x c e; ⟨h1, h0, h2, v₀, cellExt hc hs h1.big.2, fun a g1 g2 => (r a g1 g2).imp id fun ⟨v, e, q⟩ => ⟨v, e, q.mono L⟩⟩ }
end
theorem pa_pattern : PlainAttrs "re.Pattern" := ⟨⟨"object.__getattribute__", by rw [typeLookup_type, builtinLookup_eq_fast]; kernel_rfl, by decide +kernel⟩, by rw [typeLookup_type, builtinLookup_eq_fast]; kernel_rfl⟩
theorem slot_sub : Slot "re.Pattern" "sub" "re.Pattern.sub" :=
  .of (owner := "re.Pattern") (n := "sub") (by rw [typeLookup_type, builtinLookup_eq_fast]; kernel_rfl) (by decide +kernel) (by decide +kernel) (by decide +kernel)
    (by first | exact .inl (by decide +kernel) | exact .inr (by decide +kernel)) (by rw [isSubtype_type]; kernel_rfl)
theorem type_sub : typeOf (.builtin "re.Pattern.sub") = pure (.type "method_descriptor") := by show builtinType _ = _; rw [builtinType_eq_fast]; kernel_rfl
theorem entry_sub : entryFor table "re.Pattern.sub" = some Builtin.«re.Pattern.sub» := by first | exact entryFor_of_fast (by kernel_rfl) | exact entryFor_of_tree (by kernel_rfl)
theorem entry_subloop : entryFor table "re.Pattern.sub.loop" = some Builtin.«re.Pattern.sub.loop» := by first | exact entryFor_of_fast (by kernel_rfl) | exact entryFor_of_tree (by kernel_rfl)
theorem args_sub (a b c : Value) : argsOk "re.Pattern.sub" ⟨[a, b, c], []⟩ := by unfold argsOk; kernel_rfl
theorem m_sub : MethT "re.Pattern" "sub" "re.Pattern.sub" := ⟨pa_pattern, slot_sub, type_sub⟩
theorem plain_subloop : plainId "re.Pattern.sub.loop" = true := by decide +kernel
end
section
noncomputable abbrev patObj : Obj := { cls := .type "re.Pattern", data := .fields #[.str (Str.ofString "([&~|])") 285, .int 32 320, .int 1 0, .none, .none, .ref 35, .int 0 0] }
noncomputable abbrev patCode : Obj := tupOf #[.int 14 0, .int 14 0, .int 4 0, .int 1 0, .int 1 0, .int 9 0, .int 0 0, .int 64 0, .int 0 0, .int 1342177280 0, .int 0 0, .int 0 0, .int 0 0,
    .int 0 0, .int 0 0, .int 17 0, .int 0 0, .int 13 0, .int 11 0, .int 9 0, .int 0 0, .int 64 0, .int 0 0, .int 1342177280 0, .int 0 0, .int 0 0, .int 0 0, .int 0 0, .int 0 0, .int 17 0, .int 1 0, .int 1 0] 0
noncomputable def patWords : Array Nat := #[14, 14, 4, 1, 1, 9, 0, 64, 0, 1342177280, 0, 0, 0, 0, 0, 17, 0, 13, 11, 9, 0, 64, 0, 1342177280, 0, 0, 0, 0, 0, 17, 1, 1]
theorem sb_bytearray : isSubtype (.type "str") (.type "bytearray") = pure false := by rw [isSubtype_type]; kernel_rfl
theorem lk_fn_call : typeLookup (.type "function") "__call__" = pure (some (.builtin "function.__call__")) := by rw [typeLookup_type, builtinLookup_eq_fast]; kernel_rfl
section
variable {prog : Program} {w : World} {M : Model} {A : Around} {E : Value → Shared → Prop} {s : Shared}
open PySem.Builtin PySem.Builtin.Re
theorem whole_target {x : Str} {t : Tok} {Q : ReTarget → Shared → Prop} (ho : s.heap.get? 36 = some patObj) (hc : s.heap.get? 35 = some patCode)
    (h : Q { pattern := .ref 36, string := .str x t, code := patWords, text := x.cps, kind := 0, groups := 1, pos := 0, lim := x.cps.size } s) : wpAny M A (reWholeTarget (.ref 36) (.str x t)) Q E s := by
  have e : ∀ c g, c = patWords → g = 1 → Q { pattern := .ref 36, string := .str x t, code := c, text := x.cps, kind := 0, groups := g, pos := 0, lim := x.cps.size } s := by rintro _ _ rfl rfl; exact h
  unfold reWholeTarget
  refine wpAny_bind (wpAny_fieldsOf ho rfl ?_)
  refine wpAny_bind (wpAny_of_eq (a := (x.cps, 0)) rfl ?_)
  try dsimp only
  refine KFB.if_not rfl ?_
  refine KFB.if_not rfl ?_
  refine wpAny_bind (wpAny_of_eq (a := ()) rfl ?_)
  refine wpAny_bind ?_
  unfold reRawItems
  repeat (any_goals (first | assumption | wp_step))
  exact e _ _ (by decide +kernel) (by decide +kernel)
noncomputable def fails (m : Sre.M) : Bool := match (m.runFor 4).outcome with
  | some .failed => true
  | _ => false
open PySem.Builtin PySem.Builtin.Re in
theorem run_fails {m : Sre.M} (hm : fails m = true) {Q : Option Sre.M → Shared → Prop} (h : Q none s) : wpAny M A (reRunToEnd m) Q E s := by
  have ho : (m.runFor 4).outcome = some .failed := by
    unfold fails at hm
    split at hm
    · assumption
    · cases hm
  unfold reRunToEnd
  have hd : reDrive (2 ^ 64) m = pure (m.runFor 4) := by
    obtain ⟨n, hn⟩ : ∃ n, 2 ^ 64 = n + 1 := ⟨2 ^ 64 - 1, by decide⟩
    rw [hn]
    unfold reDrive
    show (if (m.runFor 4).outcome.isSome = true then _ else _) = _
    rw [ho]; rfl
  rw [hd]
  refine wpAny_bind (wpAny_pure ?_)
  generalize m.runFor 4 = r at ho
  refine wpAny_bind (wpAny_forIn_list _ (fun _ _ s' => s' = s) _ ?_ ?_ _ _ rfl)
  · rintro i rest b _ rfl
    split
    · exact wpAny_bind (wpAny_rule (wpAny_pure rfl))
    · exact wpAny_pure rfl
  · rintro b _ rfl
    rw [ho]
    exact wpAny_pure h
end
end
section
section
variable {prog : Program} {w : World} {A : Around} {E : Value → Shared → Prop} {s : Shared}
open PySem.Builtin PySem.Builtin.Re
theorem extract_all (x : Str) : (⟨x.cps.extract 0 x.cps.size⟩ : Str) = x := by
  cases x; simp
theorem subloop {x : Str} {t : Tok} {D : Addr} {repl : Value} {P : Fin → Shared → Prop} (ho : s.heap.get? 36 = some patObj) (hc : s.heap.get? 35 = some patCode) (hD : s.heap.get? D = some (listOf #[] 0)) (hx : x.length ≤ 1000)
    (hf : fails (Sre.forSearch patWords x.cps 1 0 x.cps.size false) = true)
    (h : ∀ t' h' k, Heap.ExtBut D s.heap h' → P (.done (.ret (.str x t'))) { s with heap := h', toks := k }) :
    wpAny (model prog w) A (Builtin.«re.Pattern.sub.loop» ⟨[.ref 36, .str x t, repl, rawInt 1, rawInt 0, rawInt 0, rawInt 0, rawInt 0, .bool false, .ref D, .bool false], []⟩) P E s := by
  unfold Builtin.«re.Pattern.sub.loop»
  simp only [rawInt]
  refine wpAny_bind (whole_target ho hc ?_)
  refine KFB.if_not rfl ?_
  refine wpAny_bind ?_
  refine KFB.if_not rfl ?_
  unfold reNextFound
  refine run_fails hf ?_
  try dsimp only
  rw [show Int.toNat 0 = 0 from rfl]
  have hj0 : (⟨x.cps.extract 0 0⟩ : Str) = Str.empty := by simp [Str.empty]
  by_cases hz : 0 < x.cps.size
  · rw [if_pos hz]
    refine wpAny_bind ?_
    show wpAny _ _ (mkStr ⟨x.cps.extract 0 x.cps.size⟩) _ _ _
    rw [extract_all]
    refine wpAny_mkStr ?_ (by unfold sizeLine; lia)
    refine wpAny_bind (wpAny_updateSeq (s := { s with toks := s.toks + 1 }) hD rfl ?_)
    have hu := Heap.get?_update_self (h := s.heap) (Obj.mapSeq (·.push (.str x s.toks))) hD (by rw [mapSeq_push]; rfl)
    rw [mapSeq_push] at hu
    have hs := (Heap.SameBut.update s.heap D (Obj.mapSeq (·.push (.str x s.toks)))).extBut
    generalize s.heap.update D (Obj.mapSeq (·.push (.str x s.toks))) = h₂ at hu hs
    refine wpAny_bind ?_
    show wpAny _ _ (mkStr ⟨x.cps.extract 0 0⟩) _ _ _
    rw [hj0]
    refine wpAny_mkStr ?_ (by decide)
    refine wpAny_bind (wpAny_seqItems (s := { s with heap := h₂, toks := s.toks + 1 + 1 }) hu rfl ?_)
    refine KFB.if_not rfl ?_
    refine wpAny_bind (wpAny_up (join_listW (s := { s with heap := h₂, toks := s.toks + 1 + 1 }) (ys := [x]) (items := #[].push (.str x s.toks)) ⟨_, hu, rfl, _, rfl⟩ (.cons x s.toks .nil) (by decide) (by simp; lia) fun t' k hle => ?_))
    have hjx : Txt.join Str.empty [x] = x := by cases x; rfl
    rw [hjx]
    exact wpAny_pure (h _ _ _ hs)
  · have hx0 : x = Str.empty := by
      cases x with
      | mk c => simp [Str.empty] at hz ⊢; exact hz
    rw [if_neg hz]
    refine wpAny_bind ?_
    show wpAny _ _ (mkStr ⟨x.cps.extract 0 0⟩) _ _ _
    rw [hj0]
    refine wpAny_mkStr ?_ (by decide)
    repeat (any_goals (first | assumption | wp_step))
    rw [hx0] at h
    exact h _ _ _ (Heap.ExtBut.refl _ _)
theorem sub_tree {x : Str} {t : Tok} {f : Addr} {P : Fin → Shared → Prop} {of : Obj} (hfo : s.heap.get? f = some of) (hfc : of.cls = .type "function") (ho : s.heap.get? 36 = some patObj) (hc : s.heap.get? 35 = some patCode) (hx : x.length ≤ 1000)
    (hf : fails (Sre.forSearch patWords x.cps 1 0 x.cps.size false) = true)
    (h : ∀ D, s.heap.objs.size ≤ D → P (.again (.builtin "re.Pattern.sub.loop" ⟨[.ref 36, .str x t, .ref f, rawInt 1, rawInt 0, rawInt 0, rawInt 0, rawInt 0, .bool false, .ref s.heap.objs.size, .bool false], []⟩)) { s with heap := s.heap.push (listOf #[] 0) }) :
    wpAny (model prog w) A (Builtin.«re.Pattern.sub» ⟨[.ref 36, .ref f, .str x t], []⟩) P E s := by
  show wpAny _ _ (reSubstitute "re.Pattern.sub" "sub" false ⟨[.ref 36, .ref f, .str x t], []⟩) _ _ _
  unfold reSubstitute
  try dsimp only
  refine wpAny_bind (wpAny_of_eq (a := [some (.ref f), some (.str x t), none]) (by first | rfl | kernel_rfl) ?_)
  try dsimp only
  refine wpAny_bind (wpAny_pure ?_)
  have hT : s.TypeIs (.ref f) "function" := ⟨of, hfo, hfc⟩
  refine wpAny_bind (wpAny_specialOf hT lk_fn_call ?_)
  refine KFB.if_so rfl ?_
  refine wpAny_bind (wpAny_pure ?_)
  refine KFB.if_so rfl ?_
  refine wpAny_bind (wpAny_pure ?_)
  try dsimp only
  refine wpAny_bind (wpAny_holding (whole_target ho hc ?_))
  refine KFB.if_so (by decide) ?_
  refine wpAny_bind ?_
  unfold reNotHeld
  refine wpAny_bind (wpAny_isInstance (typeIs_str _ _ _) sb_bytearray ?_)
  refine KFB.if_not rfl ?_
  refine wpAny_pure ?_
  refine wpAny_bind (wpAny_newObj_type (wpAny_pure (h _ (Nat.le_refl _))))
theorem call_sub {x : Str} {t : Tok} {f : Addr} {Q : Value → Shared → Prop} {of : Obj} (hfo : s.heap.get? f = some of) (hfc : of.cls = .type "function") (ho : s.heap.get? 36 = some patObj) (hc : s.heap.get? 35 = some patCode) (hx : x.length ≤ 1000)
    (hf : fails (Sre.forSearch patWords x.cps 1 0 x.cps.size false) = true)
    (h : ∀ t' h' k, (∀ b o, s.heap.get? b = some o → h'.get? b = some o) → Q (.str x t') { s with heap := h', toks := k }) :
    wpAny (model prog w) A (call (.builtin "re.Pattern.sub") [.ref 36, .ref f, .str x t]) Q E s := by
  refine wpAny_call (codeAny_call_builtin slot_sub.plain entry_sub (slot_sub.check _ _ _ _ _ _ _ _ ⟨_, ho, rfl⟩ (args_sub _ _ _) (sub_tree hfo hfc ho hc hx hf fun D _ => ?_)))
  refine ⟨plainId_quiet plain_subloop _, codeAny_builtin entry_subloop ?_⟩
  rw [Around.under_plainId plain_subloop _]
  have k : ∀ b o, s.heap.get? b = some o → (s.heap.push (listOf #[] 0)).get? b = some o := fun b o e => Heap.get?_push_of_some _ e
  refine subloop (s := { s with heap := s.heap.push (listOf #[] 0) }) (k _ _ ho) (k _ _ hc) (Heap.get?_push_size _ rfl) hx hf fun t' h' n hn => ?_
  exact h _ _ _ fun b o e => hn b o (Nat.ne_of_lt (Heap.lt_size e)) (k _ _ e)
end
end
section
section
variable {T : TopCx} {S : FnS} {C : Cx T S} {B : Base} {s : Shared} {Z : Addr → Prop} {σ : Sig} {μ μ' μ₁ μ₂ : Sto} {x y : Str} {p1 p2 p3 p4 p5 lp pos : Pos} {rest : List Stmt} {K : AF → Sig → Sto → Prop} {a : AV}
theorem lam_made {args : Arguments} {body : Expr} {scope : Scope} (ok : C.Ok) (R : Rp C B s Z σ μ) (hcode : C.env.code = .ref codeA) (hcl : closureFor scope C.env = pure []) (hdf : defaultsOf args C.env = ([], [])) {Q : Value → Shared → Prop} {E : Value → Shared → Prop}
    (h : ∀ f of s', s'.heap.get? f = some of → of.cls = .type "function" → Rp C B s' Z σ μ → Le s.heap Z s'.heap Z → Q (.ref f) s') : wpAny (Md T) C.A (eval (.Lambda args body scope lp) C.env) Q E s := by
  rw [arm_eval_Lambda, hdf]
  refine wpAny_bind (wpAny_pure ?_)
  refine wpAny_bind (wpAny_holding (wpAny_pure ?_))
  have hg : s.heap.Ns mainGlobals T.mg := ok.top.g.keeps R.top
  have hb : s.heap.BuiltinsAt T.mg tabA := ok.top.bat.keeps R.top
  have hc : CodeHd s.heap codeA tabA := ok.top.chd.keeps R.top
  obtain ⟨ps, hP, ht⟩ := R.tab
  cases hnf : codeAmong lp ps.toList with
  | none =>
    refine wpAny_up (kla_makeFunction hcl ok.glob hg hcode hc hP ht hnf ok.top.mgt hb fun c' ctv h' tk hx hge hlt hrec htb hle => ?_)
    have ht' : TriplesOk (ps ++ #[rawInt lp.line, rawInt lp.col, Value.ref c']).toList := by
      have e : (ps ++ #[rawInt lp.line, rawInt lp.col, Value.ref c']).toList = ps.toList ++ [rawInt lp.line, rawInt lp.col, .ref c'] := by simp
      rw [e]; exact TriplesOk_snoc _ _ _ _ ht
    obtain ⟨R₁, L₁⟩ := R.tabGrow ok hx htb ht' (show s.toks ≤ tk from hle)
    exact h _ _ _ (Heap.get?_push_size _ rfl) rfl (R₁.push _) (L₁.trans (le_push _ _ _))
  | some cv =>
    refine wpAny_up (kla_makeFunctionHit hcl ok.glob hg hcode hc hP ht hnf hb fun ctv h' tk hk hsz hle => ?_)
    have R₁ : Rp C B { s with heap := h', toks := tk } Z σ μ := R.grow (s' := { s with heap := h', toks := tk }) hk rfl R.gens (Nat.lt_of_lt_of_le R.tk hle)
    exact h _ _ _ (Heap.get?_push_size _ rfl) rfl (R₁.push _) ((Le.of_keep hk).trans (le_push _ _ _))
theorem evs_sub {args : Arguments} {body : Expr} {scope : Scope} {y : List Nat} (hg : (Str.ofString "_twin_re_1", Value.ref 36) ∈ S.globs) (hx : (x, .str y) ∈ σ) (hcode : C.env.code = .ref codeA) (hcl : closureFor scope C.env = pure []) (hdf : defaultsOf args C.env = ([], []))
    (hl : y.length ≤ 1000) (hf : fails (Sre.forSearch patWords y.toArray 1 0 y.length false) = true) (hline : (p2.endLine == p5.line) = true := by rfl) :
    EvD C (.Call (.Attribute (.Name "_twin_re_1" p1) "sub" p2) [.Lambda args body scope lp, .Name x p4] [] p5) σ μ (.str y) := by
  refine ⟨fun ok B s Z R => ?_⟩
  refine wpAny_Call_method rfl rfl hline m_sub.pa m_sub.slot m_sub.ty (wpAny_mono ((ev_glob (C := C) (pos := p1) hg).run ok B s Z R) ?_ fun _ _ x => x)
  rintro v s₁ ⟨Z₁, R₁, L₁, V₁⟩
  obtain rfl := V₁.ival
  have ho := R₁.top _ _ ok.top.pat
  refine ⟨⟨_, ho, rfl⟩, fun b q => by cases q; exact ⟨_, ho, rfl⟩, ?_⟩
  refine callWith_any rfl ?_
  refine Calls.spliced_cons (lam_made ok R₁ hcode hcl hdf fun f of s₂ hfo hfc R₂ L₂ => ?_)
  refine Calls.spliced_cons (wpAny_mono (xname ok R₂ hx rfl) ?_ fun _ _ x => x)
  rintro w s₃ ⟨rfl, V₃⟩
  obtain ⟨_, rfl⟩ := V₃.istr
  refine Calls.spliced_nil ⟨fun Q' h => wpAny_pure (h _), ?_⟩
  refine wpAny_up (call_sub hfo hfc (R₂.top _ _ ok.top.pat) (R₂.top _ _ ok.top.pcode) (by simpa [Str.length] using hl) (by simpa using hf) fun t' h' k hk hle => ?_)
  exact ⟨Z₁, R₂.grow (s' := { s₃ with heap := h', toks := k }) hk rfl R₂.gens (Nat.lt_of_lt_of_le R₂.tk hle), L₁.trans (L₂.trans (Le.of_keep hk)), .str _ _⟩
end
end
section
section
variable {prog : Program} {w : World} {A : Around} {E : Value → Shared → Prop} {s : Shared}
noncomputable def protoT (C : Addr) (fp wr : List Addr) (n₀ : Nat) (F : Nat → Value → Prop) : Protocol := fun m s₀ v s kap =>
  F (n₀ - 1 - m) v ∧ GenSince C wr s₀ s ∧ ∀ s'' : Shared, 0 < s''.toks → (∀ b ∈ C :: fp, ∀ o, s.heap.get? b = some o → s''.heap.get? b = some o) → kap (.send .none) s''
noncomputable def EltT (prog : Program) (w : World) (cenv : Env) (x : Str) (elt : Expr) (P : Nat → Value → Prop) (F : Nat → Value → Prop) : Prop :=
  ∀ (A' : Around) E' i v (s₂ : Shared) m₂, A'.handled = none → 0 < s₂.toks → P i v → s₂.heap.Ns cenv.locals m₂ → m₂ x = some v → wpAny (model prog w) A' (eval elt cenv) (fun y s₃ => F i y ∧ Keeps s₂ s₃) E' s₂
noncomputable abbrev gexp (elt iter : Expr) (x : Str) (px : Pos) (scope : Scope) (pos : Pos) : Expr := .GeneratorExp elt [⟨.Name x px, iter, [], 0⟩] scope pos
theorem seg_loopT {elt iter : Expr} {x : Str} {px : Pos} {scope : Scope} {pos : Pos} {I : Addr} {fp wr : List Addr} {n₀ : Nat} {P : Nat → Value → Prop} {St₀ : Nat → Heap → Prop} {cenv : Env} {F : Nat → Value → Prop}
    (hh : A.handled = none) (W : ∀ A' : Around, A'.handled = none → Walks prog w A' I fp wr n₀ P St₀) (hx : cenv.kindOf x = some .local) (hk : cenv.scope.kind = .function) (hco : cenv.scope.isCoroutine = false) (hC : cenv.locals ∉ fp) (el : EltT prog w cenv x elt P F) :
    ∀ (k i : Nat) (s₀ s : Shared) (m : Str → Option Value), n₀ - i = k → i ≤ n₀ → 0 < s.toks → St₀ i s.heap → s.heap.Ns cenv.locals m → GenSince cenv.locals wr s₀ s →
      Seg (model prog w) A (fun n s₀ r s₁ => r = .ok .next ∧ (n = 0 ∧ GenSince cenv.locals wr s₀ s₁)) (protoT cenv.locals fp wr n₀ F) (n₀ - i) s₀ (.compLoop (gexp elt iter x px scope pos) 0 (.ref I) .none cenv)
        ((model prog w).den (.compLoop (gexp elt iter x px scope pos) 0 (.ref I) .none cenv)) [] s := by
  have hh' : (A.over (.compLoop (gexp elt iter x px scope pos) 0 (.ref I) .none cenv) []).handled = none := hh
  have hCw : cenv.locals ∉ wr := fun h => hC ((W A hh).sub _ h)
  intro k
  induction k with
  | zero =>
    intro i s₀ s m hki hi ht hst hn hs
    have e : i = n₀ := by room
    subst e
    show Seg _ A _ _ _ s₀ _ ((compTurn (gexp elt iter x px scope pos) 0 (.ref I) .none cenv).onRaise (leaving cenv)) [] s
    rw [compTurn_gen, Sem.onRaise_eq_wrap]
    refine seg_bind_wrap (wpAny_standAt (seg_bind_wrap ((W _ hh').done s _ _ hst fun h' tk hk' => ?_)))
    exact seg_end (.ok .next) ⟨rfl, Nat.sub_self _, hs.step fun b o _ hw e => hk' b o hw e⟩
  | succ k ih =>
    intro i s₀ s m hki hi ht hst hn hs
    have hlt : i < n₀ := by room
    have e1 : n₀ - i = (n₀ - (i + 1)) + 1 := by room
    rw [e1]
    show Seg _ A _ _ _ s₀ _ ((compTurn (gexp elt iter x px scope pos) 0 (.ref I) .none cenv).onRaise (leaving cenv)) [] s
    rw [compTurn_gen, Sem.onRaise_eq_wrap]
    refine seg_bind_wrap (wpAny_standAt (seg_bind_wrap (wpAny_up ((W _ hh').item i s _ _ hlt hst fun v h₁ tk₁ hPv hst₁ hk₁ hle₁ => ?_))))
    refine seg_bind_wrap (wpAny_of_eq (rfl : letOwnedTupleGo (.Name x px) (.ref I) v = pure ()) ?_)
    refine seg_bind_wrap (wpAny_up (wpAny_assign_Name (wpAny_storeName_local hx (hn.at' fun o e => hk₁ _ o hCw e) (fun h₂ hn₂ hs₂ hle₂ => ?_) (by rw [hk]; rfl))))
    have up₂ : ∀ b o, b ≠ cenv.locals → b ∉ wr → s.heap.get? b = some o → h₂.get? b = some o := fun b o h1 h2 e => hs₂.extBut b o h1 (hk₁ b o h2 e)
    have hst₂ : St₀ (i + 1) h₂ := (W A hh).frame _ _ _ hst₁ fun b hb o e => hs₂.extBut b o (fun h => hC (h ▸ hb)) e
    refine seg_bind_wrap (wpAny_tests_nil ?_)
    rw [if_pos rfl]
    have hy : ∀ v, yieldOut cenv v = yieldValue v := fun v => by simp only [yieldOut, hco, Bool.false_eq_true, if_false]
    simp only [hy]
    rw [Sem.bind_eq_wrap', Sem.bind_eq_wrap', Sem.wrap_wrap, Sem.wrap_wrap]
    have ht₂ := Nat.lt_of_lt_of_le (Nat.lt_of_lt_of_le ht hle₁) hle₂
    refine seg_wrap (wpAny_mono (el _ _ i v _ _ hh' ht₂ hPv hn₂ (by simp)) (fun y s₄ h₄ => ?_) fun _ _ e => e)
    obtain ⟨hFy, h₄, tk₄, rfl, hk₄⟩ := h₄
    refine seg_at (seg_yield rfl rfl rfl ⟨?_, hs.step fun b o h1 h2 e => hk₄ b o (up₂ b o h1 h2 e), fun s'' ht'' hal => ?_⟩)
    · have e2 : n₀ - 1 - (n₀ - (i + 1)) = i := by room
      rw [e2]; exact hFy
    · refine seg_again rfl (ih (i + 1) s'' s'' _ (by room) hlt ht'' ((W A hh).frame _ _ _ hst₂ fun b hb o e => hal b (List.mem_cons_of_mem _ hb) o (hk₄ b o e)) ((hn₂.keeps hk₄).at' fun o e => hal _ (List.mem_cons_self ..) o e) (GenSince.refl _ _ _))
theorem seg_startT {elt iter : Expr} {x : Str} {px : Pos} {scope : Scope} {pos : Pos} {I : Addr} {fp wr : List Addr} {n₀ : Nat} {P : Nat → Value → Prop} {St₀ : Nat → Heap → Prop} {cenv : Env} {F : Nat → Value → Prop}
    (hh : A.handled = none) (W : ∀ A' : Around, A'.handled = none → Walks prog w A' I fp wr n₀ P St₀) (hx : cenv.kindOf x = some .local) (hk : cenv.scope.kind = .function) (hco : cenv.scope.isCoroutine = false) (hC : cenv.locals ∉ fp) (el : EltT prog w cenv x elt P F)
    (s₀ s : Shared) (m : Str → Option Value) (ht : 0 < s.toks) (hst : St₀ 0 s.heap) (hn : s.heap.Ns cenv.locals m) (hs : GenSince cenv.locals wr s₀ s) :
      Seg (model prog w) A (fun n s₀ r s₁ => r = .ok .next ∧ (n = 0 ∧ GenSince cenv.locals wr s₀ s₁)) (protoT cenv.locals fp wr n₀ F) n₀ s₀ (.compStart (gexp elt iter x px scope pos) 0 (.ref I) .none cenv)
        ((model prog w).den (.compStart (gexp elt iter x px scope pos) 0 (.ref I) .none cenv)) [] s := by
  have hh' : (A.over (.compStart (gexp elt iter x px scope pos) 0 (.ref I) .none cenv) []).handled = none := hh
  have loop := seg_loopT (iter := iter) (px := px) (scope := scope) (pos := pos) hh W hx hk hco hC el n₀ 0 s₀ s m (Nat.sub_zero _) (Nat.zero_le _) ht hst hn hs
  rw [Nat.sub_zero] at loop
  show Seg _ A _ _ _ s₀ _ ((compStart (gexp elt iter x px scope pos) 0 (.ref I) .none cenv).onRaise (leaving cenv)) [] s
  unfold compStart
  rw [Sem.onRaise_eq_wrap]
  show Seg _ A _ _ _ s₀ _ ((ask >>= _).wrap _ _ _ _) [] s
  refine seg_bind_wrap (wpAny_askSetting ?_)
  split
  · exact seg_again rfl loop
  · first
      | exact seg_bind_wrap (wpAny_rule (seg_bind_wrap (wpAny_standAt (seg_bind_wrap ((W _ hh').self 0 s _ _ hst (seg_again rfl loop))))))
      | (refine seg_bind_wrap (wpAny_rule ?_); show Seg _ A _ _ _ s₀ _ ((standAt iter.pos >>= _).wrap _ _ _ _) [] s; exact seg_bind_wrap (wpAny_standAt (seg_bind_wrap ((W _ hh').self 0 s _ _ hst (seg_again rfl loop)))))
noncomputable def GenT (prog : Program) (w : World) (A : Around) (a : Addr) (g : Nat) (C : Addr) (fp wr : List Addr) (n₀ : Nat) (F : Nat → Value → Prop) (j : Nat) (s : Shared) : Prop :=
  0 < s.toks ∧ s.heap.IsGen a g ∧ s.heap.NoLimit ∧ ∃ gs, s.gens[g]? = some gs ∧ ∀ s'' : Shared, 0 < s''.toks → (∀ b ∈ C :: fp, ∀ o, s.heap.get? b = some o → s''.heap.get? b = some o) →
    gs.Goes (model prog w) A.in1 (fun n s₀ r s₁ => r = .ok .next ∧ (n = 0 ∧ GenSince C wr s₀ s₁)) (protoT C fp wr n₀ F) (n₀ - j) (.send .none) s''
theorem walksT (hh : A.handled = none) (a : Addr) (g : Nat) (C : Addr) (fp wr : List Addr) (n₀ : Nat) (F : Nat → Value → Prop) (haC : a ≠ C) (haf : a ∉ fp) (hsub : ∀ b ∈ wr, b ∈ fp)
    (hroom : A.depth < recursionLimit) (hcs : cStatics ∈ fp) (hcC : cStatics ≠ C) (hcw : cStatics ∉ wr) :
    WalksS prog w A a (a :: C :: fp) (C :: wr) (GenOnlyQ g) n₀ F (GenT prog w A a g C fp wr n₀ F) where
  sub := fun b hb => by
    rcases List.mem_cons.mp hb with rfl | hb
    · simp
    · exact List.mem_cons_of_mem _ (List.mem_cons_of_mem _ (hsub b hb))
  grefl := fun _ => .inl rfl
  gtrans := fun _ _ _ x y => x.trans y
  frame := fun j s h' tk ⟨ht, hg, hl, gs, hgs, hgo⟩ hle hk =>
    ⟨Nat.lt_of_lt_of_le ht hle, let ⟨o, nm, qn, ho, r⟩ := hg; ⟨o, nm, qn, hk a (List.mem_cons_self ..) o ho, r⟩,
     (let ⟨mc, hns, hnn⟩ := hl; ⟨mc, hns.at' fun o e => hk cStatics (List.mem_cons_of_mem _ (List.mem_cons_of_mem _ hcs)) o e, hnn⟩),
     gs, hgs, fun s'' ht'' hal => hgo s'' ht'' fun b hb o e => hal b hb o (hk b (List.mem_cons_of_mem _ hb) o e)⟩
  item := fun j s Q E hj ⟨ht, hg, hl, gs, hgs, hgo⟩ hQ => by
    obtain ⟨m, hm⟩ : ∃ m, n₀ - j = m + 1 := ⟨n₀ - j - 1, by lia⟩
    rw [hm] at hgo
    refine wpAny_up ?_
    refine wpAny_pyNext_genexpQ (P := fun n s₀ s₁ => n = 0 ∧ GenSince C wr s₀ s₁) hh hl hroom hg hgs (hgo _ ht fun _ _ _ e => e) (fun v s₁ gs' hb hv => ?_) (fun s₁ hp h' hk => ?_)
    · obtain ⟨hF, ⟨h₁, tk₁, rfl, hk₁⟩, hkap⟩ := hv
      have hidx : n₀ - 1 - (m + 1 - 1) = j := by room
      rw [hidx] at hF
      have haw : a ∉ wr := fun h => haf (hsub a h)
      intro htk
      refine hQ v _ hF ⟨Nat.lt_of_lt_of_le ht htk, let ⟨o, nm, qn, ho, r⟩ := hg; ⟨o, nm, qn, hk₁ a o haC haw ho, r⟩, (let ⟨mc, hns, hnn⟩ := hl; ⟨mc, hns.at' fun o e => hk₁ cStatics o hcC hcw e, hnn⟩), gs', setGen_self (gs := .running) (setGen_self hgs), fun s'' ht'' hal => ?_⟩
        ⟨fun b o hb e => hk₁ b o (fun h => hb (h ▸ List.mem_cons_self ..)) (fun h => hb (List.mem_cons_of_mem _ h)) e, GenOnlyQ.of ((GenOnly.setGen s g .running).trans (GenOnly.setGen _ g gs')) (setGen_self (gs := .running) (setGen_self hgs)) hb, rfl, rfl, htk⟩
      have e : n₀ - (j + 1) = m := by room
      rw [e]
      exact hkap s'' ht'' hal
    · exact absurd hp.1 (Nat.succ_ne_zero m)
  done := fun s Q E ⟨ht, hg, hl, gs, hgs, hgo⟩ hQ => by
    rw [Nat.sub_self] at hgo
    refine wpAny_up ?_
    refine wpAny_pyNext_genexpQ (P := fun n s₀ s₁ => n = 0 ∧ GenSince C wr s₀ s₁) hh hl hroom hg hgs (hgo _ ht fun _ _ _ e => e) (fun v s₁ gs' hb hv => ?_) (fun s₁ hp h' hk => ?_)
    · obtain ⟨_, ⟨h₁, tk₁, rfl, _⟩, hkap⟩ := hv
      intro htk
      exact False.elim (hkap _ (Nat.lt_of_lt_of_le ht htk) fun _ _ _ e => e)
    · obtain ⟨_, h₁, tk₁, rfl, hk₁⟩ := hp
      intro htk
      exact hQ _ ⟨fun b o hb e => hk b o (hk₁ b o (fun h => hb (h ▸ List.mem_cons_self ..)) (fun h => hb (List.mem_cons_of_mem _ h)) e), GenOnlyQ.of ((GenOnly.setGen s g .running).trans (GenOnly.setGen _ g .finished)) (setGen_self (gs := .running) (setGen_self hgs)) rfl, rfl, rfl, htk⟩
  self := fun _ _ _ _ st hQ => wpAny_pyIter_gen st.2.1 hQ
end
end
section
section
variable {T : TopCx} {S : FnS} {C : Cx T S} {B : Base} {s : Shared} {Z : Addr → Prop} {σ : Sig} {μ μ' μ₁ μ₂ : Sto} {x y : Str} {p1 p2 p3 p4 p5 gp px pi pos : Pos} {rest : List Stmt} {K : AF → Sig → Sto → Prop} {a : AV}
noncomputable def StrAt (xs : List (List Nat)) (i : Nat) (v : Value) : Prop := ∃ x, xs[i]? = some x ∧ ∃ t, v = .str (stv x) t
theorem code_gexp {scope : Scope} (ok : C.Ok) (R : Rp C B s Z σ μ) (hcode : C.env.code = .ref codeA) {q : Str} {Q : Value → Shared → Prop} {E : Value → Shared → Prop}
    (h : ∀ code h' tk, Heap.ExtBut tabA s.heap h' → s.toks ≤ tk → Rp C B { s with heap := h', toks := tk } Z σ μ → Le s.heap Z h' Z → Q code { s with heap := h', toks := tk }) : wpAny (Md T) C.A (genexprCode C.env gp q scope) Q E s := by
  have hc : CodeHd s.heap codeA tabA := ok.top.chd.keeps R.top
  obtain ⟨ps, hP, ht⟩ := R.tab
  cases hnf : codeAmong gp ps.toList with
  | none =>
    refine wpAny_up (wpAny_genexprCodeX hcode (hc.code hP ht) (hc.tab hP) hnf fun c' h' tk hx hge hlt _ hrec htb _ hle => ?_)
    have ht' : TriplesOk (ps ++ #[rawInt gp.line, rawInt gp.col, Value.ref c']).toList := by
      have e : (ps ++ #[rawInt gp.line, rawInt gp.col, Value.ref c']).toList = ps.toList ++ [rawInt gp.line, rawInt gp.col, .ref c'] := by simp
      rw [e]; exact TriplesOk_snoc _ _ _ _ ht
    obtain ⟨R₁, L₁⟩ := R.tabGrow ok hx htb.2 ht' (show s.toks ≤ tk from hle)
    exact h _ _ _ hx hle R₁ L₁
  | some cv =>
    exact wpAny_genexprCode_hit hcode (hc.code hP ht) hnf (h _ _ _ (Heap.ExtBut.refl _ _) (Nat.le_refl _) (R.toks _ R.tk) (Le.refl _ _))
theorem joinG_core {elt iter : Expr} {scope : Scope} {xs ys : List (List Nat)} {sep r : List Nat} {I l : Addr} {vs : List Value} {s : Shared} {code : Value} {tsep : Tok} (ok : C.Ok) (R : Rp C B s Z σ μ) (hI : s.heap.IsListIter I l 0) (hL : s.heap.IsList l vs.toArray) (X : Alone C B s Z μ I) (hIl : l ≠ I)
    (hvs : ∀ i v, vs[i]? = some v → StrAt xs i v) (hvl : vs.length = xs.length) (hco : scope.isCoroutine = false) (hx : scope.names.lookup x = some .local) (hkind : scope.kind = .function)
    (hlen : ys.length = xs.length) (hl : xs.length ≤ 100) (el : ∀ cenv : Env, cenv.scope = scope → EltT T.prog T.w cenv x elt (StrAt xs) (StrAt ys)) (hj : joinF sep ys = r) (hok : JoinOk (stv sep) (ys.map stv) = true)
    {h' : Heap} (hn : h'.Ns s.heap.objs.size (fun z => if z = (".0" : Str) then some (.ref I) else none)) (hs : Heap.SameBut s.heap.objs.size (s.heap.push { cls := .type "frame", data := .dict #[] }) h') {tk : Nat} (ht : s.toks ≤ tk) {gnm gq : Value} :
    wpAny (Md T) C.A (call (.builtin "str.join") [.str (stv sep) tsep, .ref h'.objs.size]) (PostS C B σ μ s.heap Z (.str r)) NoE
      { s with gens := s.gens.push (.fresh (.compStart (gexp elt iter x px scope gp) 0 (.ref I) .none (genEnv scope [] s.heap.objs.size code builtinsNs C.env))), toks := tk, heap := h'.push { cls := .type "generator", data := .fields #[.int s.gens.size 0, gnm, gq] } } := by
  have hsz : h'.objs.size = s.heap.objs.size + 1 := by rw [hs.1, Heap.size_push]
  generalize hsN : s.heap.objs.size = N at *
  have keep' : ∀ b o, s.heap.get? b = some o → h'.get? b = some o := fun b o e => hs.extBut b o (Nat.ne_of_lt (hsN ▸ Heap.lt_size e)) (Heap.get?_push_of_some _ e)
  have hnl : s.heap.NoLimit := ok.top.nolimit.keeps R.top
  have hclt : cStatics < N := let ⟨_, hn, _⟩ := hnl; hsN ▸ hn.lt
  have hIlt : I < N := let ⟨o, ho⟩ := X.here; hsN ▸ Heap.lt_size ho
  have hcI : cStatics ∉ [I] := fun h => by
    obtain ⟨mc, ⟨o, es, ep, ho, hd, _⟩, _⟩ := id hnl
    have e := List.mem_singleton.mp h
    obtain ⟨o', ho', _, hd'⟩ := hI
    rw [← e, ho] at ho'
    cases ho'
    rw [hd] at hd'; cases hd'
  have hsub : ∀ b ∈ [I], b ∈ List.range N := fun b hb => List.mem_range.mpr (List.mem_singleton.mp hb ▸ hIlt)
  have hhA : (C.A.in1.in1).handled = none := ok.hh
  have hroom : (C.A.in1.in1).depth < recursionLimit := by show C.A.depth < _; have := ok.depth; lia
  have hllt : l < N := let ⟨o, ho, _⟩ := hL; hsN ▸ Heap.lt_size ho
  have W : ∀ A' : Around, A'.handled = none → Walks T.prog T.w A' I (List.range N) [I] xs.length (StrAt xs) (fun i h => h.IsListIter I l i ∧ h.IsList l vs.toArray) := fun A' hA => by
    have W0 := (Walks.list (prog := T.prog) (w := T.w) hA I l hIl vs.toArray).mono_fp (fp' := List.range N) fun b hb => by
      simp at hb
      rcases hb with rfl | rfl
      · exact List.mem_range.mpr hIlt
      · exact List.mem_range.mpr hllt
    have e : vs.toArray.size = xs.length := by simpa using hvl
    rw [e] at W0
    exact { sub := W0.sub, frame := W0.frame, done := W0.done, self := W0.self,
            item := fun i s Q E hi st hQ => W0.item i s Q E hi st fun v h' tk hv => hQ v h' tk (hvs i v (by simpa using hv)) }
  have ht0 : 0 < tk := Nat.lt_of_lt_of_le R.tk ht
  let cenv := genEnv scope [] N code builtinsNs C.env
  let g := s.gens.size
  let gob : Obj := { cls := .type "generator", data := .fields #[.int g 0, gnm, gq] }
  let gst : GenState := .fresh (.compStart (gexp elt iter x px scope gp) 0 (.ref I) .none cenv)
  let s₅ : Shared := { s with gens := s.gens.push gst, toks := tk, heap := h'.push gob }
  have keep₅ : ∀ b o, s.heap.get? b = some o → s₅.heap.get? b = some o := fun b o e => Heap.get?_push_of_some _ (keep' b o e)
  have haC : N + 1 ≠ N := Nat.succ_ne_self _
  have haf : N + 1 ∉ List.range N := fun hm => by have := List.mem_range.mp hm; lia
  have hCf : N ∉ List.range N := fun hm => Nat.lt_irrefl _ (List.mem_range.mp hm)
  have WS := walksT (prog := T.prog) (w := T.w) (A := C.A.in1.in1) hhA (N + 1) g N (List.range N) [I] xs.length (StrAt ys) haC haf hsub hroom (List.mem_range.mpr hclt) (Nat.ne_of_lt hclt) hcI
  have hgen : s₅.heap.IsGen (N + 1) g := ⟨_, _, _, hsz ▸ Heap.get?_push_size h' rfl, rfl, rfl, rfl⟩
  have hst : GenT T.prog T.w C.A.in1.in1 (N + 1) g N (List.range N) [I] xs.length (StrAt ys) 0 s₅ := by
    refine ⟨ht0, hgen, hnl.keeps keep₅, gst, Array.getElem?_push_size .., fun s'' ht'' hal => ⟨rfl, ?_⟩⟩
    rw [Nat.sub_zero]
    have hn5 : s₅.heap.Ns N (fun z => if z = (".0" : Str) then some (.ref I) else none) := hn.push gob
    refine seg_startT (cenv := cenv) (A := C.A.in1.in1.in1) hhA W hx hkind hco hCf (el cenv rfl) s'' s'' _ ht'' ?_ (hn5.at' fun o e => hal _ (List.mem_cons_self ..) o e) (GenSince.refl _ _ _)
    exact (W C.A ok.hh).frame 0 s₅.heap s''.heap ((W C.A ok.hh).frame 0 s.heap s₅.heap ⟨hI, hL⟩ fun b _ o e => keep₅ b o e) fun b hb o e => hal b (List.mem_cons_of_mem _ hb) o e
  rw [hsz]
  have hyl : ∀ (lq : List (Str × Tok)), ItemsOf (StrAt ys) (strValues lq).toArray xs.length → lq.map (·.1) = ys.map stv := fun lq hq => by
    obtain ⟨h1, h2⟩ := hq
    have hlq : lq.length = xs.length := by simpa [strValues] using h1
    refine List.ext_getElem (by simp [hlq, hlen]) fun i hi1 hi2 => ?_
    have hil : i < lq.length := by simpa using hi1
    obtain ⟨yi, hyi, t, he⟩ := h2 i (.str lq[i].1 lq[i].2) (by simp [strValues, hil])
    obtain ⟨hyl, rfl⟩ := List.getElem?_eq_some_iff.mp hyi
    simp only [List.getElem_map]
    injection he
  have hs5 : s₅.heap.objs.size = N + 2 := by show (h'.push gob).objs.size = _; rw [Heap.size_push, hsz]
  refine wpAny_up (SC.joinGen (s := s₅) WS (fun i s st => st.2.1.typeIs) hst (fun b hb => ?_) (List.mem_cons_self ..) (fun i v ⟨y, _, t, e⟩ => ⟨_, t, e⟩) (fun s' lq hmv hit => ?_) (by unfold sizeLine; lia))
  · refine Nat.lt_of_lt_of_le (m := N + 2) ?_ (Nat.le_of_eq hs5.symm)
    rcases List.mem_cons.mp hb with rfl | hb
    · exact Nat.lt_succ_self _
    · rcases List.mem_cons.mp hb with rfl | hb
      · exact Nat.lt_succ_of_lt (Nat.lt_succ_self _)
      · exact Nat.lt_succ_of_lt (Nat.lt_succ_of_lt (List.mem_range.mp hb))
  · rw [hyl lq hit]
    refine ⟨hok, fun t' k => ?_⟩
    intro hle
    rw [glued_stv, hj]
    obtain ⟨R', L'⟩ := R.off ok.top X.own X.nl X.nc (h' := s'.heap) fun b o hb e => hmv.heap b o (fun hm => by
      rcases List.mem_cons.mp hm with q | q
      · exact Nat.lt_irrefl N (by have := Heap.lt_size e; rw [hsN, q] at this; exact this)
      · exact hb (List.mem_singleton.mp q)) (keep₅ b o e)
    exact ⟨Z, R'.grow (s' := { s' with toks := k }) (fun _ _ e => e) hmv.os (GenOnlyQ.bare hmv.gens (AllBare.push R.gens rfl)) (Nat.lt_of_lt_of_le ht0 hle), L', .str _ _⟩
theorem evs_joinG {elt : Expr} {scope : Scope} {xs ys : List (List Nat)} {sep r : List Nat} {l : Addr} {k : Nat} {Sp : Str} (hSp : Sp = stv sep) (hy : (y, .own l) ∈ σ) (hm : (l, xs.map .str) ∈ μ) (hcode : C.env.code = .ref codeA)
    (hco : scope.isCoroutine = false) (hcl : closureFor scope C.env = pure []) (hcell : ∀ z ∈ scope.names, z.2 ≠ .cell) (h0 : scope.names.lookup (".0" : Str) = some NameKind.local) (hx : scope.names.lookup x = some .local) (hkind : scope.kind = .function)
    (hlen : ys.length = xs.length) (hl : xs.length ≤ 100) (el : ∀ cenv : Env, cenv.scope = scope → EltT T.prog T.w cenv x elt (StrAt xs) (StrAt ys)) (hj : joinF sep ys = r) (hok : JoinOk (stv sep) (ys.map stv) = true)
    (hline : (p2.endLine == p5.line) = true := by rfl) :
    EvD C (.Call (.Attribute (.Constant (.str Sp) k p1) "join" p2) [gexp elt (.Name y pi) x px scope gp] [] p5) σ μ (.str r) := by
  subst hSp
  refine ⟨fun ok B s Z R => ?_⟩
  refine wpAny_Call_method rfl rfl hline m_join.pa m_join.slot m_join.ty (Calls.Constant_str ?_)
  refine ⟨typeIs_str _ _ _, (fun x e => nomatch e), ?_⟩
  refine callWith_any rfl ?_
  have R₁ := R.toks (s.toks + 1)
  refine Calls.spliced_cons ?_
  refine wpAny_GeneratorExp_make hco hcl hcell h0 hkind (by have := ok.depth; lia) (wpAny_mono (xname ok R₁ hy rfl) ?_ fun _ _ x => x) (fun _ => rfl)
  rintro v s' ⟨rfl, V⟩
  obtain rfl := V.iown
  obtain ⟨_, _, _, vs, n, eo, rr⟩ := R₁.own _ hm
  have hvl : vs.length = xs.length := by have := rr.length; simpa using this
  refine wpAny_pyIter_list (isList_of eo) ?_
  have R₂ := R₁.push { cls := .type "list_iterator", data := .fields #[.ref l, .int 0 0] }
  have X₂ := R₁.alone { cls := .type "list_iterator", data := .fields #[.ref l, .int 0 0] }
  have hI := Heap.get?_push_size s.heap (o := { cls := .type "list_iterator", data := .fields #[.ref l, .int 0 0] }) rfl
  refine ⟨ok.top.nolimit.keeps R₂.top, ?_⟩
  refine code_gexp ok R₂ hcode fun code h₃ tk₃ hx₃ hle₃ R₃ L₃ => ?_
  have hg₃ : h₃.Ns mainGlobals T.mg := ok.top.g.keeps R₃.top
  obtain ⟨bm, ob, hbm, hne0, _, hneP, hbo, hcls, hdict, hdata⟩ := ok.top.bat.keeps R₃.top
  rw [ok.glob]
  refine wpAny_builtinsFor hg₃ hbm hne0 hbo hcls hdict hdata ?_
  intro h' hn hs
  refine Calls.spliced_nil ⟨fun Q' h => wpAny_pure (h _), ?_⟩
  have hI₃ := hx₃ _ _ (fun q => X₂.own.big.2 q) hI
  have L₁ : Le s.heap Z h₃ Z := (le_push s.heap Z _).trans L₃
  have hl₃ := hx₃ _ _ (R.own _ hm).2.1.2 (Heap.get?_push_of_some _ eo)
  refine wpAny_mono (joinG_core (elt := elt) (iter := .Name y pi) (px := px) (gp := gp) (code := code) (I := s.heap.objs.size) (l := l) (vs := vs) ok R₃ ⟨_, hI₃, rfl, rfl⟩ (isList_of hl₃) ⟨⟨X₂.own.big, X₂.own.nz, X₂.own.nm, X₂.own.new⟩, X₂.nl, X₂.nc, _, hI₃⟩ (fun q => ltne (R.own_lt hm) q) (fun i v hv => ?_) hvl hco hx hkind hlen hl el hj hok hn hs (by show tk₃ ≤ tk₃ + 1 + 1 + 1; lia)) (fun _ _ p => p.le L₁) fun _ _ x => x
  have hlt : i < xs.length := by rw [← hvl]; exact (List.getElem?_eq_some_iff.mp hv).1
  obtain ⟨v', hv', Vv⟩ := rr.get (k := i) (a := .str xs[i]) (by simp [hlt])
  rw [hv] at hv'
  cases hv'
  obtain ⟨_, rfl⟩ := Vv.istr
  exact ⟨_, List.getElem?_eq_getElem hlt, _, rfl⟩
end
end
section
section
variable {prog : Program} {w : World} {A : Around} {E : Value → Shared → Prop} {s : Shared}
theorem wp_replace {o : Expr} {env : Env} {x y z r : List Nat} {k1 k2 : Nat} {p1 p2 p3 p4 : Pos} {s0 : Shared} {Y W : Str} (hY : Y = stv y) (hW : W = stv z) (ht : 0 < s.toks)
    (ho : wpAny (model prog w) A (eval o env) (fun v s₁ => (∃ t, v = .str (stv x) t) ∧ Keeps s0 s₁) E s)
    (hr : Txt.replace (stv x) (stv y) (stv z) = stv r) (hyz : (stv y == stv z) = false) (hx : x.length ≤ 1000) (hz : z.length ≤ 10)
    (hbase : attributeBase o "replace" env (eval o env) = eval o env := by rfl) (hline : (p1.endLine == p4.line) = true := by rfl) :
    wpAny (model prog w) A (eval (.Call (.Attribute o "replace" p1) [.Constant (.str Y) k1 p2, .Constant (.str W) k2 p3] [] p4) env) (fun v s₁ => (∃ t, v = .str (stv r) t) ∧ Keeps s0 s₁) E s := by
  subst hY hW
  refine wpAny_Call_method hbase rfl hline m_replace.pa m_replace.slot m_replace.ty (wpAny_up (wpAny_mono ho ?_ fun _ _ x _ => x))
  rintro v s₁ ⟨⟨t, rfl⟩, h', tk, rfl, hk⟩ hle
  refine ⟨typeIs_str _ _ _, (fun _ e => nomatch e), ?_⟩
  refine callWith_any rfl ?_
  refine Calls.spliced_cons (Calls.Constant_str (k := k1) (pos := p2) ?_)
  refine Calls.spliced_cons (Calls.Constant_str (k := k2) (pos := p3) ?_)
  refine Calls.spliced_nil ⟨fun Q' h => wpAny_pure (h _), ?_⟩
  refine SC.replace (Nat.ne_of_gt (Nat.lt_of_lt_of_le ht hle)) (Nat.succ_ne_zero _) (Nat.ne_of_lt (Nat.lt_succ_self _)) hyz ?_ fun t' k => ?_
  · have e1 : (stv x).length = x.length := by simp [Str.length]
    have e2 : (stv z).length = z.length := by simp [Str.length]
    rw [e1, e2]
    have : (x.length + 1) * z.length ≤ (1000 + 1) * 10 := Nat.mul_le_mul (by room) hz
    lia
  · rw [hr]
    exact ⟨⟨_, rfl⟩, h', k, rfl, hk⟩
noncomputable def RepOk (xs ys : List (List Nat)) : Prop := ∀ (i : Nat) (x : List Nat), xs[i]? = some x → x.length ≤ 100 ∧ ∃ b y, ys[i]? = some y ∧ b.length ≤ 100 ∧ Txt.replace (stv x) (stv [92]) (stv [92, 92]) = stv b ∧ Txt.replace (stv b) (stv [45]) (stv [92, 45]) = stv y
theorem eltT_rep {xs ys : List (List Nat)} {scope : Scope} {n : Str} {k1 k2 k3 k4 : Nat} {p0 p1 p2 p3 p4 q1 q2 q3 q4 : Pos} {Y1 W1 Y2 W2 : Str} (h : RepOk xs ys) (hY1 : Y1 = stv [92]) (hW1 : W1 = stv [92, 92]) (hY2 : Y2 = stv [45]) (hW2 : W2 = stv [92, 45]) (hk : scope.kind = .function) (hx : scope.names.lookup n = some .local) (hd : (n == ("__debug__" : Str)) = false)
    (hl1 : (p1.endLine == p4.line) = true) (hl2 : (q1.endLine == q4.line) = true) (cenv : Env) (hc : cenv.scope = scope) :
    EltT prog w cenv n (.Call (.Attribute (.Call (.Attribute (.Name n p0) "replace" p1) [.Constant (.str Y1) k1 p2, .Constant (.str W1) k2 p3] [] p4) "replace" q1) [.Constant (.str Y2) k3 q2, .Constant (.str W2) k4 q3] [] q4) (StrAt xs) (StrAt ys) := by
  rintro A' E' i v s₂ m₂ hh ht ⟨x, hxi, t, rfl⟩ hn hm
  obtain ⟨lx, b, y, hyi, lb, r1, r2⟩ := h i x hxi
  have base : wpAny (model prog w) A' (eval (.Name n p0) cenv) (fun v s₁ => (∃ t, v = .str (stv x) t) ∧ Keeps s₂ s₁) E' s₂ := by
    refine wpAny_Name ?_ hd
    refine wpAny_loadName_local (by rw [hc]; exact hk) (by show cenv.scope.names.lookup n = _; rw [hc]; exact hx) hn hm ?_
    exact ⟨⟨t, rfl⟩, s₂.heap, s₂.toks, rfl, fun _ _ e => e⟩
  have one := wp_replace (k1 := k1) (k2 := k2) (p1 := p1) (p2 := p2) (p3 := p3) (p4 := p4) hY1 hW1 ht base r1 (by decide +kernel) (by room) (by decide) rfl hl1
  have two := wp_replace (k1 := k3) (k2 := k4) (p1 := q1) (p2 := q2) (p3 := q3) (p4 := q4) hY2 hW2 ht one r2 (by decide +kernel) (by room) (by decide) rfl hl2
  exact wpAny_mono two (fun v s₁ ⟨⟨t, e⟩, kp⟩ => ⟨⟨y, hyi, t, e⟩, kp⟩) fun _ _ e => e
end
end
section
section
variable {T : TopCx} {S : FnS} {C : Cx T S} {B : Base} {s : Shared} {Z : Addr → Prop} {σ : Sig} {μ μ' μ₁ μ₂ : Sto} {x y : Str} {p1 p2 p3 p4 p5 pos : Pos} {rest : List Stmt} {K : AF → Sig → Sto → Prop} {a c : AV} {e f : Expr}
theorem ev_fstr {u y v : List Nat} {k1 k2 : Nat} {U V : Str} {X : Expr} (hU : U = stv u) (hV : V = stv v) (hx : EvD C X σ μ (.str y)) (hl : u.length + y.length + v.length ≤ 1000000) :
    EvD C (.JoinedStr [.Constant (.str U) k1 p1, .FormattedValue X (-1) none p3, .Constant (.str V) k2 p4] p5) σ μ (.str (u ++ y ++ v)) := by
  subst hU hV
  refine ⟨fun ok B s Z R => ?_⟩
  have e0 : Str.empty ++ stv u = stv u := by
    have : Str.empty = stv [] := rfl
    rw [this, stv_append]; rfl
  refine JoinedStr_many (joinParts_cons (Calls.Constant_str (k := k1) (pos := p1) ⟨?_, ?_⟩))
  · rw [e0]; unfold sizeLine; simp [Str.length]; lia
  rw [e0]
  refine joinParts_cons (FormattedValue_plain (wpAny_mono (hx.run ok B _ Z (R.toks _)) ?_ fun _ _ x => x))
  rintro w s₁ ⟨Z₁, R₁, L₁, V₁⟩
  obtain ⟨_, rfl⟩ := V₁.istr
  refine wpAny_up (formatField_str (fun t' tk hle => ?_) (by unfold sizeLine; simp [Str.length]; lia))
  refine ⟨by rw [stv_append]; unfold sizeLine; simp [Str.length]; lia, ?_⟩
  rw [stv_append]
  have R₂ := R₁.toks tk (Nat.lt_of_lt_of_le R₁.tk hle)
  refine joinParts_cons (Calls.Constant_str (k := k2) (pos := p4) ⟨?_, ?_⟩)
  · rw [stv_append]; unfold sizeLine; simp [Str.length]; lia
  rw [stv_append]
  refine joinParts_nil ?_ (by unfold sizeLine; simp [Str.length]; lia)
  exact ⟨Z₁, (R₂.toks (tk + 1)).toks _, L₁, .str _ _⟩
theorem ex_delLast {l : Addr} {xs : List AV} {μ' : Sto} (hf : EvD C f σ μ (.int (xs.length : Nat))) (hx : (x, .own l) ∈ σ) (hm : (l, xs ++ [c]) ∈ μ) (hl : xs.length < 1000) (h : Ex C rest σ (upd l xs μ) K) :
    Ex C (.Delete [.Subscript (.Name x p1) f p2] pos :: rest) σ μ K := by
  refine ex_cons ⟨fun ok B s Z R => ?_⟩
  refine wpAny_Delete (wpAny_deleteEach_cons ?_)
  show wpAny _ _ (eval (.Name x p1) C.env >>= _) _ _ s
  refine wpAny_bind (wpAny_mono (xname ok R hx rfl) ?_ fun _ _ x => x)
  rintro v s₀ ⟨rfl, V⟩
  obtain rfl := V.iown
  refine wpAny_bind (wpAny_holding (wpAny_mono (hf.run ok B _ Z R) ?_ fun _ _ x => x))
  rintro w s₁ ⟨Z₁, R₁, L₁, V₁⟩
  obtain ⟨_, rfl⟩ := V₁.iint
  obtain ⟨h1, h2, h3, vs, n, eo, r⟩ := R₁.own _ hm
  have hvl : vs.length = xs.length + 1 := by have := r.length; simpa using this
  have hsx : seqIndex? ((xs.length : Nat) : Int) vs.toArray.size = some xs.length := by
    unfold seqIndex?
    have : ¬ (((xs.length : Nat) : Int) < 0) := by room
    simp only [this, if_false]
    have h2 : (((xs.length : Nat) : Int) ≥ 0 && ((xs.length : Nat) : Int) < (vs.toArray.size : Int)) = true := by simp; lia
    rw [if_pos h2]; simp
  refine wpAny_bind (wpAny_standAt (wpAny_bind (wpAny_holding ?_)))
  refine P.delItem_list (items := vs.toArray) (n := n) (k := xs.length) eo ?_ hsx ?_ (by rw [List.size_toArray]; unfold sizeLine; lia)
  · have : -(2 ^ 63 : Int) ≤ ((xs.length : Nat) : Int) ∧ ((xs.length : Nat) : Int) < 2 ^ 63 := by room
    unfold Builtin.List.listFitsIndex
    simp
    lia
  have q := PySem.IsL.update eo (fun xs' => xs'.eraseIdxIfInBounds xs.length)
  have he : vs.toArray.eraseIdxIfInBounds xs.length = (vs.take xs.length).toArray := by
    apply Array.toList_inj.mp
    unfold Array.eraseIdxIfInBounds
    rw [dif_pos (by rw [List.size_toArray]; lia)]
    rw [Array.toList_eraseIdx]
    show vs.eraseIdx xs.length = vs.take xs.length
    have hsplit : vs = vs.take xs.length ++ [vs[xs.length]'(by room)] := by
      have h1 : vs.take xs.length ++ vs.drop xs.length = vs := List.take_append_drop _ _
      have h2 : vs.drop xs.length = [vs[xs.length]'(by room)] := by
        rw [List.drop_eq_getElem_cons (by room), List.drop_of_length_le (by room)]
      rw [h2] at h1; exact h1.symm
    conv => lhs; rw [hsplit]
    rw [List.eraseIdx_append_of_length_le (by rw [List.length_take]; lia)]
    have : xs.length - (vs.take xs.length).length = 0 := by rw [List.length_take]; lia
    rw [this]; simp
  rw [he] at q
  obtain ⟨R', L⟩ := R₁.setOwn ok.top (upd_up hm) (Heap.SameBut.update ..).extBut q (by have := r.take xs.length; simpa using this)
  exact wpAny_release' (wpAny_deleteEach_nil ⟨Z₁, σ, _, .next, R', L₁.trans L, .next, h⟩)
end
end
section
noncomputable abbrev Part := Option (List Nat)
noncomputable def partAV (st : Addr) : Part → AV
  | none => .val (.ref st)
  | some x => .str x
noncomputable abbrev S_tr : FnS := { names := [("pat", false), ("STAR", false), ("QUESTION_MARK", false), ("res", false), ("add", false), ("i", false), ("n", false), ("c", false), ("j", false), ("stuff", false), ("chunks", false), ("k", false), ("chunk", false)], globs := [("len", .builtin "len"), ("range", .type "range"), ("_twin_re_1", .ref 36), ("escape", .ref 55)] }
noncomputable def sgT (pat : List Nat) (st r : Addr) (i n : Nat) (v1 v2 v3 v4 v5 v6 : AV) : Sig := [("pat", .str pat), ("STAR", .val (.ref st)), ("QUESTION_MARK", .str [46]), ("res", .own r), ("add", .app r), ("i", .int i), ("n", .int n), ("c", v1), ("j", v2), ("stuff", v3), ("chunks", v4), ("k", v5), ("chunk", v6)]
noncomputable abbrev trI : Stmt := (forB 8 3).getD 2 default
noncomputable def starP (acc : List Part) : List Part := match acc.getLast? with
  | some none => acc
  | _ => acc ++ [none]
section
variable {T : TopCx} {C : Cx T S_tr} {pat : List Nat} {st r : Addr} {i n : Nat} {v1 v2 v3 v4 v5 v6 : AV} {acc : List Part} {μ : Sto} {K : AF → Sig → Sto → Prop} {post : List Nat}
theorem add_st {x : List Nat} {e : Expr} {p1 pos p2 : Pos} {rest : List Stmt} {σ : Sig} (hI : interactive C.env = false) (hx : (Str.ofString "add", AV.app r) ∈ σ) (he : EvL C [e] σ ((r, acc.map (partAV st)) :: μ) [.str x] ((r, acc.map (partAV st)) :: μ)) (hl : acc.length < 1000)
    (h : Ex C rest σ ((r, (acc ++ [some x]).map (partAV st)) :: μ) K)
    (hp : ∀ pos env, (backTo pos (starEach [e] env)).any (·.1) = false := by intro _ _; rfl) (hs : ∀ env, swapsWith (.Call (.Name "add" p1) [e] [] pos) none p2.line env = pure false := by intro _; rfl) :
    Ex C (.Expr (.Call (.Name "add" p1) [e] [] pos) p2 :: rest) σ ((r, acc.map (partAV st)) :: μ) K := by
  have e1 : (acc ++ [some x]).map (partAV st) = acc.map (partAV st) ++ [.str x] := by simp [partAV]
  rw [e1] at h
  exact ex_expr (evs_add hx he (.head _) .head (by unfold sizeLine; simp; lia) hp) h hI hs
theorem head_turn {b : Nat} (hpat : pat.drop i = b :: post) (hl : pat.length < 2 ^ 20)
    (h : Ex C ((forB 8 3).drop 2) (sgT pat st r (i + 1) n (.str [b]) v2 v3 v4 v5 v6) ((r, acc.map (partAV st)) :: μ) K) :
    Ex C (forB 8 3) (sgT pat st r i n v1 v2 v3 v4 v5 v6) ((r, acc.map (partAV st)) :: μ) K := by
  have hb : pat[i]? = some b := by have := get_drop hpat 0; simpa using this
  unfold sgT at h ⊢
  refine ex_let (a := .str [b]) (evs_item (by dictfold_shaped) (by dictfold_shaped) (itm_str (nth_nat hb) (by room))) (by dictfold_puts) ?_
  refine ex_let (a := .int ((i + 1 : Nat) : Int)) (by dictfold_shaped) (by dictfold_puts) ?_
  exact h
theorem star_turn (hI : interactive C.env = false) (hpat : pat.drop i = 42 :: post) (hl : pat.length < 2 ^ 20) (hal : acc.length < 1000)
    (h : ∀ v1 v2 v3 v4 v5 v6, K .next (sgT pat st r (i + 1) n v1 v2 v3 v4 v5 v6) ((r, (starP acc).map (partAV st)) :: μ)) :
    Ex C (forB 8 3) (sgT pat st r i n v1 v2 v3 v4 v5 v6) ((r, acc.map (partAV st)) :: μ) K := by
  refine head_turn hpat hl ?_
  unfold sgT at h ⊢
  have hm : (r, acc.map (partAV st)) ∈ (r, acc.map (partAV st)) :: μ := .head _
  refine ex_if (b := true) (evt_cmp (by dictfold_shaped) (ev_str (y := [42]) (by decide +kernel)) cmp_eq1 rfl) (fun _ => ?_) fun q => nomatch q
  have tl : ∀ σ, Tru C (.own r) σ ((r, acc.map (partAV st)) :: μ) (!acc.isEmpty) := fun σ => by
    have := tru_list (C := C) (σ := σ) (LstAt.own hm) (by simp; lia)
    simpa only [List.isEmpty_map] using this
  have addS : ∀ {p1 pos p2 p3 : Pos} {σ : Sig}, (Str.ofString "add", AV.app r) ∈ σ → (Str.ofString "STAR", AV.val (.ref st)) ∈ σ → Ex C [] σ ((r, (acc ++ [none]).map (partAV st)) :: μ) K → Ex C [.Expr (.Call (.Name "add" p1) [.Name "STAR" p3] [] pos) p2] σ ((r, acc.map (partAV st)) :: μ) K := fun {p1 pos p2 p3 σ} h1 h2 hk => by
    have e1 : (acc ++ [none]).map (partAV st) = acc.map (partAV st) ++ [.val (.ref st)] := by simp [partAV]
    rw [e1] at hk
    exact ex_expr (evs_add h1 (evl_cons (ev_name h2 rfl) evl_nil) (.head _) .head (by unfold sizeLine; simp; lia)) hk hI
  cases hlast : acc.getLast? with
  | none =>
    have hnil : acc = [] := by simpa using hlast
    refine ex_then (ex_if (b := true) (evt_bool (alo (x := true) (evt_not (b := false) (evt_val (by dictfold_shaped) (by have := tl; rw [hnil] at this; simpa [hnil] using this _) (fun _ => rfl))) (fun _ => rfl) fun q => nomatch q)) (fun _ => ex_then (addS (by dictfold_has) (by dictfold_has) (ex_nil ?_))) fun q => nomatch q)
    have := h (.str [42]) v2 v3 v4 v5 v6
    simp only [starP, hlast] at this
    exact this
  | some p =>
    obtain ⟨a0, ha⟩ := List.getLast?_eq_some_iff.mp hlast
    have hne : acc.isEmpty = false := by rw [ha]; simp
    have hitm : ∀ {σ : Sig}, Itm C (.own r) (-1) σ ((r, acc.map (partAV st)) :: μ) (partAV st p) := fun {σ} => itm_list (LstAt.own hm) (by rw [ha, List.map_append]; exact nth_neg1) (by simp; lia)
    cases p with
    | none =>
      refine ex_then (ex_if (b := false) (evt_bool (alo (x := false) (evt_not (b := true) (evt_val (by dictfold_shaped) (by have := tl; simp only [hne, Bool.not_false] at this; exact this _) (fun _ => rfl))) (fun q => nomatch q) fun _ => alo (x := false) (evt_cmp (evs_item (by dictfold_shaped) (ev_neg (by dictfold_shaped)) hitm) (by dictfold_shaped) cmp_isnot_self rfl) (fun q => nomatch q) fun _ => alf rfl)) (fun q => nomatch q) fun _ => ex_then (ex_nil ?_))
      have := h (.str [42]) v2 v3 v4 v5 v6
      simp only [starP, hlast] at this
      exact this
    | some x =>
      refine ex_then (ex_if (b := true) (evt_bool (alo (x := false) (evt_not (b := true) (evt_val (by dictfold_shaped) (by have := tl; simp only [hne, Bool.not_false] at this; exact this _) (fun _ => rfl))) (fun q => nomatch q) fun _ => alo (x := true) (evt_cmp (evs_item (by dictfold_shaped) (ev_neg (by dictfold_shaped)) hitm) (by dictfold_shaped) cmp_isnot_str rfl) (fun _ => rfl) fun q => nomatch q)) (fun _ => ex_then (addS (by dictfold_has) (by dictfold_has) (ex_nil ?_))) fun q => nomatch q)
      have := h (.str [42]) v2 v3 v4 v5 v6
      simp only [starP, hlast] at this
      exact this
theorem q_turn (hI : interactive C.env = false) (hpat : pat.drop i = 63 :: post) (hl : pat.length < 2 ^ 20) (hal : acc.length < 1000)
    (h : ∀ v1 v2 v3 v4 v5 v6, K .next (sgT pat st r (i + 1) n v1 v2 v3 v4 v5 v6) ((r, (acc ++ [some [46]]).map (partAV st)) :: μ)) :
    Ex C (forB 8 3) (sgT pat st r i n v1 v2 v3 v4 v5 v6) ((r, acc.map (partAV st)) :: μ) K := by
  refine head_turn hpat hl ?_
  unfold sgT at h ⊢
  refine ex_if (b := false) (evt_cmp (by dictfold_shaped) (ev_str (y := [42]) (by decide +kernel)) (cmp_eq1 (x := 63) (y := 42)) rfl) (fun q => nomatch q) fun _ => ex_then ?_
  refine ex_if (b := true) (evt_cmp (by dictfold_shaped) (ev_str (y := [63]) (by decide +kernel)) cmp_eq1 rfl) (fun _ => ex_then ?_) fun q => nomatch q
  exact add_st hI (by dictfold_has) (by dictfold_shaped) hal (ex_nil (h _ _ _ _ _ _))
theorem s_turn {c : Nat} (hI : interactive C.env = false) (hd : 1 ≤ C.d) (hc : c = 94 ∨ c = 92 ∨ c = 97 ∨ c = 33) (hpat : pat.drop i = c :: post) (hl : pat.length < 2 ^ 20) (hal : acc.length < 1000)
    (h : ∀ v1 v2 v3 v4 v5 v6, K .next (sgT pat st r (i + 1) n v1 v2 v3 v4 v5 v6) ((r, (acc ++ [some (esc c)]).map (partAV st)) :: μ)) :
    Ex C (forB 8 3) (sgT pat st r i n v1 v2 v3 v4 v5 v6) ((r, acc.map (partAV st)) :: μ) K := by
  refine head_turn hpat hl ?_
  unfold sgT at h ⊢
  have ne : ∀ y, y ≠ 94 → y ≠ 92 → y ≠ 97 → y ≠ 33 → ∀ σ μ, Cmp C .Eq (.str [c]) (.str [y]) σ μ false := fun y h1 h2 h3 h4 σ μ => by
    have := cmp_eq1 (C := C) (σ := σ) (μ := μ) (x := c) (y := y)
    rwa [decide_eq_false (by rcases hc with rfl | rfl | rfl | rfl <;> lia)] at this
  refine ex_if (b := false) (evt_cmp (by dictfold_shaped) (ev_str (y := [42]) (by decide +kernel)) (ne 42 (by decide) (by decide) (by decide) (by decide) _ _) rfl) (fun q => nomatch q) fun _ => ex_then ?_
  refine ex_if (b := false) (evt_cmp (by dictfold_shaped) (ev_str (y := [63]) (by decide +kernel)) (ne 63 (by decide) (by decide) (by decide) (by decide) _ _) rfl) (fun q => nomatch q) fun _ => ex_then ?_
  refine ex_if (b := false) (evt_cmp (by dictfold_shaped) (ev_str (y := [91]) (by decide +kernel)) (ne 91 (by decide) (by decide) (by decide) (by decide) _ _) rfl) (fun q => nomatch q) fun _ => ex_then ?_
  exact add_st hI (by dictfold_has) (evl_cons (evs_call (as := [.str [c]]) (by dictfold_shaped) (by dictfold_shaped) (by dictfold_shaped2) (ca_fn (fn_escape (d := 0) hc) (by room)) (fun _ _ => rfl)) evl_nil) hal (ex_nil (h _ _ _ _ _ _))
end
end
section
noncomputable abbrev brB : List Stmt := ifB (ifN trI 2)
noncomputable abbrev brE : List Stmt := ifE (brB.getD 4 default)
section
variable {T : TopCx} {C : Cx T S_tr} {pat : List Nat} {st r : Addr} {i n : Nat} {v1 v2 v3 v4 v5 v6 : AV} {acc : List Part} {μ : Sto} {K : AF → Sig → Sto → Prop} {post w : List Nat}
theorem ltb {m n : Nat} (h : m < n) : ∀ {σ μ}, Cmp C .Lt (.int (m : Nat)) (.int (n : Nat)) σ μ true := fun {σ μ} => by
  have := cmp_ltN (C := C) (σ := σ) (μ := μ) (m := m) (n := n)
  rwa [decide_eq_true h] at this
theorem eqf {x y : Nat} (h : x ≠ y) : ∀ {σ μ}, Cmp C .Eq (.str [x]) (.str [y]) σ μ false := fun {σ μ} => by
  have := cmp_eq1 (C := C) (σ := σ) (μ := μ) (x := x) (y := y)
  rwa [decide_eq_false h] at this
theorem nef {x y : Nat} (h : x ≠ y) : ∀ {σ μ}, Cmp C .NotEq (.str [x]) (.str [y]) σ μ true := fun {σ μ} => by
  have := cmp_ne1 (C := C) (σ := σ) (μ := μ) (x := x) (y := y)
  rwa [decide_eq_false h] at this
set_option maxHeartbeats 1000000 in
theorem scan_turn (hpat : pat.drop i = w ++ 93 :: post) (hl : pat.length < 2 ^ 20) (hw : ∀ x ∈ w, x ≠ 93) (hw0 : w ≠ []) (hw1 : w ≠ [33])
    (h : Ex C brE (sgT pat st r i pat.length (.str [91]) (.int ((i + w.length : Nat) : Int)) v3 v4 v5 v6) μ K) :
    Ex C brB (sgT pat st r i pat.length (.str [91]) v2 v3 v4 v5 v6) μ K := by
  have hdl := drop_len hpat (by simp; lia)
  simp only [List.length_append, List.length_cons] at hdl
  have at_ : ∀ t, pat[i + t]? = (w ++ 93 :: post)[t]? := fun t => get_drop hpat t
  have hin : ∀ t (ht : t < w.length), pat[i + t]? = some w[t] := fun t ht => by rw [at_, List.getElem?_append_left ht, List.getElem?_eq_getElem ht]
  have hend : pat[i + w.length]? = some 93 := by rw [at_, List.getElem?_append_right (Nat.le_refl _)]; simp
  have hwl : 0 < w.length := List.length_pos_iff.mpr hw0
  have h0 : pat[i]? = some w[0] := hin 0 hwl
  unfold sgT at h ⊢
  refine ex_let (a := .int ((i : Nat) : Int)) (by dictfold_shaped) (by dictfold_puts) ?_
  obtain ⟨t1, ht1, hk⟩ : ∃ t1, t1 < w.length ∧ ∀ {rest : List Stmt} {K' : AF → Sig → Sto → Prop},
      Ex C rest (sgT pat st r i pat.length (.str [91]) (.int ((i + t1 : Nat) : Int)) v3 v4 v5 v6) μ K' → Ex C (brB.getD 1 default :: rest) (sgT pat st r i pat.length (.str [91]) (.int ((i : Nat) : Int)) v3 v4 v5 v6) μ K' := by
    by_cases hq : w[0] = 33
    · have h2 : 1 < w.length := by
        rcases Nat.lt_or_ge 1 w.length with h | h
        · exact h
        · exfalso
          apply hw1
          apply List.ext_getElem
          · simp; lia
          · intro k hk1 hk2
            simp at hk2
            subst hk2
            simpa using hq
      refine ⟨1, h2, fun {rest K'} hh => ?_⟩
      unfold sgT at hh ⊢
      refine ex_if (b := true) (evt_bool (ala (x := true) (evt_cmp (by dictfold_shaped) (by dictfold_shaped) (ltb (by room)) rfl) (fun q => nomatch q) fun _ => ala (x := true) (evt_cmp (evs_item (by dictfold_shaped) (by dictfold_shaped) (itm_str (nth_nat h0) (by room))) (ev_str (y := [33]) (by decide +kernel)) (by rw [hq]; exact cmp_eq1) rfl) (fun q => nomatch q) fun _ => ale rfl)) (fun _ => ?_) fun q => nomatch q
      exact ex_let (a := .int ((i + 1 : Nat) : Int)) (by dictfold_shaped) (by dictfold_puts) (ex_nil hh)
    · refine ⟨0, hwl, fun {rest K'} hh => ?_⟩
      unfold sgT at hh ⊢
      exact ex_if (b := false) (evt_bool (ala (x := true) (evt_cmp (by dictfold_shaped) (by dictfold_shaped) (ltb (by room)) rfl) (fun q => nomatch q) fun _ => ala (x := false) (evt_cmp (evs_item (by dictfold_shaped) (by dictfold_shaped) (itm_str (nth_nat h0) (by room))) (ev_str (y := [33]) (by decide +kernel)) (eqf hq) rfl) (fun _ => rfl) fun q => nomatch q)) (fun q => nomatch q) fun _ => ex_nil hh
  refine hk ?_
  have hj := hin t1 ht1
  have hne : w[t1] ≠ 93 := hw _ (List.getElem_mem ht1)
  unfold sgT
  refine ex_if (b := false) (evt_bool (ala (x := true) (evt_cmp (by dictfold_shaped) (by dictfold_shaped) (ltb (by room)) rfl) (fun q => nomatch q) fun _ => ala (x := false) (evt_cmp (evs_item (by dictfold_shaped) (by dictfold_shaped) (itm_str (nth_nat hj) (by room))) (ev_str (y := [93]) (by decide +kernel)) (eqf hne) rfl) (fun _ => rfl) fun q => nomatch q)) (fun q => nomatch q) fun _ => ex_nil ?_
  refine ex_while (fun m σ μ₁ => ∃ t, t ≤ w.length ∧ m = w.length - t ∧ σ = sgT pat st r i pat.length (.str [91]) (.int ((i + t : Nat) : Int)) v3 v4 v5 v6 ∧ μ₁ = μ) (n := w.length - t1) ⟨t1, by lia, rfl, rfl, rfl⟩ ?_
  rintro m σ μ₁ ⟨t, ht, rfl, rfl, rfl⟩
  unfold sgT
  rcases Nat.lt_or_ge t w.length with hlt | hge
  · have hj := hin t hlt
    have hne : w[t] ≠ 93 := hw _ (List.getElem_mem hlt)
    refine ⟨true, evt_bool (ala (x := true) (evt_cmp (by dictfold_shaped) (by dictfold_shaped) (ltb (by room)) rfl) (fun q => nomatch q) fun _ => ala (x := true) (evt_cmp (evs_item (by dictfold_shaped) (by dictfold_shaped) (itm_str (nth_nat hj) (by room))) (ev_str (y := [93]) (by decide +kernel)) (nef hne) rfl) (fun q => nomatch q) fun _ => ale rfl), fun _ => ?_, fun q => nomatch q⟩
    refine ex_let (a := .int ((i + (t + 1) : Nat) : Int)) (by dictfold_shaped) (by dictfold_puts) (ex_nil ⟨w.length - (t + 1), by lia, t + 1, hlt, rfl, rfl, rfl⟩)
  · have e : t = w.length := by room
    subst e
    refine ⟨false, evt_bool (ala (x := true) (evt_cmp (by dictfold_shaped) (by dictfold_shaped) (ltb (by room)) rfl) (fun q => nomatch q) fun _ => ala (x := false) (evt_cmp (evs_item (by dictfold_shaped) (by dictfold_shaped) (itm_str (nth_nat hend) (by room))) (ev_str (y := [93]) (by decide +kernel)) (by have := cmp_ne1 (C := C) (σ := [("pat", .str pat), ("STAR", .val (.ref st)), ("QUESTION_MARK", .str [46]), ("res", .own r), ("add", .app r), ("i", .int i), ("n", .int pat.length), ("c", .str [91]), ("j", .int ((i + w.length : Nat) : Int)), ("stuff", v3), ("chunks", v4), ("k", v5), ("chunk", v6)]) (μ := μ₁) (x := 93) (y := 93); exact this) rfl) (fun _ => rfl) fun q => nomatch q), (fun q => nomatch q), fun _ => ex_nil ?_⟩
    refine ex_if (b := false) (evt_cmp (by dictfold_shaped) (by dictfold_shaped) (by have := cmp_geN (C := C) (σ := [("pat", .str pat), ("STAR", .val (.ref st)), ("QUESTION_MARK", .str [46]), ("res", .own r), ("add", .app r), ("i", .int i), ("n", .int pat.length), ("c", .str [91]), ("j", .int ((i + w.length : Nat) : Int)), ("stuff", v3), ("chunks", v4), ("k", v5), ("chunk", v6)]) (μ := μ₁) (m := i + w.length) (n := pat.length); rwa [decide_eq_false (by room)] at this) rfl) (fun q => nomatch q) fun _ => ex_then h
end
end
section
noncomputable def brTxt : List Nat → List Nat
  | [] => [40, 63, 33, 41]
  | c :: r => if c = 33 then (if r = [] then [46] else [91] ++ ([94] ++ r) ++ [93]) else if c = 94 ∨ c = 91 then [91] ++ ([92] ++ (c :: r)) ++ [93] else [91] ++ (c :: r) ++ [93]
section
variable {T : TopCx} {C : Cx T S_tr} {pat : List Nat} {st r : Addr} {i n j : Nat} {v1 v2 v3 v4 v5 v6 : AV} {acc : List Part} {μ : Sto} {K : AF → Sig → Sto → Prop} {post w : List Nat}
theorem str_eqx {x y : List Nat} {b : Bool} (h : decide (x = y) = b) : ∀ {σ μ}, Cmp C .Eq (.str x) (.str y) σ μ b := fun {σ μ} => by
  have := cmp_eqs (C := C) (σ := σ) (μ := μ) (x := x) (y := y)
  have e : (x == y) = b := by rw [← h, Bool.eq_iff_iff]; simp
  rwa [e] at this
set_option maxHeartbeats 1000000 in
theorem tail_turn {x : List Nat} (hI : interactive C.env = false) (hcode : C.env.code = .ref codeA) (hx : x.length ≤ 1000) (hal : acc.length < 1000) (hf : fails (Sre.forSearch patWords x.toArray 1 0 x.length false) = true)
    (h : ∀ v3, K .next (sgT pat st r (j + 1) n v1 (.int (j : Nat)) v3 v4 v5 v6) ((r, (acc ++ [some (brTxt x)]).map (partAV st)) :: μ)) :
    Ex C (brE.drop 2) (sgT pat st r i n v1 (.int (j : Nat)) (.str x) v4 v5 v6) ((r, acc.map (partAV st)) :: μ) K := by
  unfold sgT at h ⊢
  refine ex_let (a := .str x) (evs_sub (by dictfold_has) (by dictfold_has) hcode (by refine (clos_eq ?_).trans rfl; intro p hp e; simp at hp; subst hp; cases e) rfl hx hf) (by dictfold_puts) ?_
  refine ex_let (a := .int ((j + 1 : Nat) : Int)) (by dictfold_shaped) (by dictfold_puts) ?_
  cases x with
  | nil =>
    refine ex_if (b := true) (evt_not (b := false) (evt_val (a := .str []) (by dictfold_shaped) (tru_str (x := []) (by decide)) (fun _ => rfl))) (fun _ => ex_then ?_) fun q => nomatch q
    exact add_st hI (by dictfold_has) (evl_cons (ev_str (y := [40, 63, 33, 41]) (by decide +kernel)) evl_nil) hal (ex_nil (h _))
  | cons c q =>
    have hlt : (c :: q).length < 2 ^ 62 := by simp at hx ⊢; lia
    have hc0 : ∀ {σ : Sig} {μ : Sto}, Itm C (.str (c :: q)) 0 σ μ (.str [c]) := fun {σ μ} => itm_str (nth_nat (i := 0) rfl) hlt
    refine ex_if (b := false) (evt_not (b := true) (evt_val (by dictfold_shaped) (tru_str hlt) (fun _ => rfl))) (fun q => nomatch q) fun _ => ex_then ?_
    by_cases h33 : c = 33
    · subst h33
      by_cases hq : q = []
      · subst hq
        refine ex_if (b := true) (evt_cmp (by dictfold_shaped) (ev_str (y := [33]) (by decide +kernel)) (str_eqx (by decide)) rfl) (fun _ => ex_then ?_) fun q => nomatch q
        exact add_st hI (by dictfold_has) (evl_cons (ev_str (y := [46]) (by decide +kernel)) evl_nil) hal (ex_nil (h _))
      · refine ex_if (b := false) (evt_cmp (by dictfold_shaped) (ev_str (y := [33]) (by decide +kernel)) (str_eqx (by simp [hq])) rfl) (fun q => nomatch q) fun _ => ex_then ?_
        refine ex_if (b := true) (evt_cmp (evs_item (by dictfold_shaped) (by dictfold_shaped) hc0) (ev_str (y := [33]) (by decide +kernel)) cmp_eq1 rfl) (fun _ => ?_) fun q => nomatch q
        refine ex_let (a := .str ([94] ++ q)) (evs_bin (ev_str (y := [94]) (by decide +kernel)) (evs_slice (by dictfold_shaped) (evo_some (by dictfold_shaped)) evo_none (slcs (slc_1n _ _) (by simp at hx ⊢; lia))) (op_adds (by unfold sizeLine; simp at hx ⊢; lia))) (by dictfold_puts) (ex_nil ?_)
        have e : brTxt (33 :: q) = [91] ++ ([94] ++ q) ++ [93] := by simp [brTxt, hq]
        rw [e] at h
        exact add_st hI (by dictfold_has) (evl_cons (ev_fstr (by decide +kernel) (by decide +kernel) (by dictfold_shaped) (by simp at hx ⊢; lia)) evl_nil) hal (ex_nil (h _))
    · refine ex_if (b := false) (evt_cmp (by dictfold_shaped) (ev_str (y := [33]) (by decide +kernel)) (str_eqx (by simp [h33])) rfl) (fun q => nomatch q) fun _ => ex_then ?_
      refine ex_if (b := false) (evt_cmp (evs_item (by dictfold_shaped) (by dictfold_shaped) hc0) (ev_str (y := [33]) (by decide +kernel)) (eqf h33) rfl) (fun q => nomatch q) fun _ => ?_
      have hin : ∀ {σ : Sig} {μ : Sto}, Cmp C .In (.str [c]) (.tup [.str [94], .str [91]]) σ μ (decide (c = 94 ∨ c = 91)) := fun {σ μ} => by
        have := cmp_in_strs (C := C) (σ := σ) (μ := μ) (x := [c]) (l := [[94], [91]])
        have e : ([[94], [91]] : List (List Nat)).any (· == [c]) = decide (c = 94 ∨ c = 91) := by rw [Bool.eq_iff_iff]; simp; lia
        rw [e] at this
        exact this
      by_cases h94 : c = 94 ∨ c = 91
      · refine ex_if (b := decide (c = 94 ∨ c = 91)) (evt_cmp (evs_item (by dictfold_shaped) (by dictfold_shaped) hc0) (by dictfold_shaped) hin rfl) (fun _ => ?_) fun q => absurd h94 (of_decide_eq_false q)
        refine ex_let (a := .str ([92] ++ (c :: q))) (evs_bin (ev_str (y := [92]) (by decide +kernel)) (by dictfold_shaped) (op_adds (by unfold sizeLine; simp at hx ⊢; lia))) (by dictfold_puts) (ex_nil (ex_nil ?_))
        have e : brTxt (c :: q) = [91] ++ ([92] ++ (c :: q)) ++ [93] := by simp [brTxt, h33, h94]
        rw [e] at h
        exact add_st hI (by dictfold_has) (evl_cons (ev_fstr (by decide +kernel) (by decide +kernel) (by dictfold_shaped) (by simp at hx ⊢; lia)) evl_nil) hal (ex_nil (h _))
      · refine ex_if (b := decide (c = 94 ∨ c = 91)) (evt_cmp (evs_item (by dictfold_shaped) (by dictfold_shaped) hc0) (by dictfold_shaped) hin rfl) (fun q => absurd (of_decide_eq_true q) h94) fun _ => ex_nil (ex_nil ?_)
        have e : brTxt (c :: q) = [91] ++ (c :: q) ++ [93] := by simp [brTxt, h33, h94]
        rw [e] at h
        exact add_st hI (by dictfold_has) (evl_cons (ev_fstr (by decide +kernel) (by decide +kernel) (by dictfold_shaped) (by simp at hx ⊢; lia)) evl_nil) hal (ex_nil (h _))
end
end
section
section
variable {T : TopCx} {C : Cx T S_tr} {pat : List Nat} {st r : Addr} {i n j : Nat} {v1 v2 v3 v4 v5 v6 : AV} {acc : List Part} {μ : Sto} {K : AF → Sig → Sto → Prop} {post w x : List Nat}
theorem br_head (hpat : pat.drop i = 91 :: post) (hl : pat.length < 2 ^ 20)
    (h : ∀ K' : AF → Sig → Sto → Prop, (∀ σ μ, K .next σ μ → K' .next σ μ) → Ex C brB (sgT pat st r (i + 1) n (.str [91]) v2 v3 v4 v5 v6) ((r, acc.map (partAV st)) :: μ) K') :
    Ex C (forB 8 3) (sgT pat st r i n v1 v2 v3 v4 v5 v6) ((r, acc.map (partAV st)) :: μ) K := by
  refine head_turn hpat hl ?_
  have h' := h K fun _ _ k => k
  unfold sgT at h' ⊢
  refine ex_if (b := false) (evt_cmp (by dictfold_shaped) (ev_str (y := [42]) (by decide +kernel)) (eqf (by decide)) rfl) (fun q => nomatch q) fun _ => ex_then ?_
  refine ex_if (b := false) (evt_cmp (by dictfold_shaped) (ev_str (y := [63]) (by decide +kernel)) (eqf (by decide)) rfl) (fun q => nomatch q) fun _ => ex_then ?_
  exact ex_if (b := true) (evt_cmp (by dictfold_shaped) (ev_str (y := [91]) (by decide +kernel)) cmp_eq1 rfl) (fun _ => ex_then h') fun q => nomatch q
set_option maxHeartbeats 1000000 in
theorem plain_br (hI : interactive C.env = false) (hcode : C.env.code = .ref codeA) (hpat : pat.drop i = w ++ 93 :: post) (hl : pat.length < 2 ^ 20) (hocc : occ w [45] = false) (hwl : w.length ≤ 100)
    (hr : Txt.replace (stv w) (stv [92]) (stv [92, 92]) = stv x) (hx : x.length ≤ 1000) (hal : acc.length < 1000) (hf : fails (Sre.forSearch patWords x.toArray 1 0 x.length false) = true)
    (h : ∀ v3, K .next (sgT pat st r (i + w.length + 1) n v1 (.int ((i + w.length : Nat) : Int)) v3 v4 v5 v6) ((r, (acc ++ [some (brTxt x)]).map (partAV st)) :: μ)) :
    Ex C brE (sgT pat st r i n v1 (.int ((i + w.length : Nat) : Int)) v3 v4 v5 v6) ((r, acc.map (partAV st)) :: μ) K := by
  have tl := tail_turn (i := i) (v4 := v4) (v5 := v5) (v6 := v6) hI hcode hx hal hf h
  unfold sgT at tl ⊢
  refine ex_let (a := .str w) (evs_slice (by dictfold_shaped) (evo_some (by dictfold_shaped)) (evo_some (by dictfold_shaped)) (slcs ((slc_dn hpat rfl rfl).trans (by simp)) (by room))) (by dictfold_puts) ?_
  refine ex_if (b := true) (evt_cmp (ev_str (y := [45]) (by decide +kernel)) (by dictfold_shaped) (by have := cmp_nins (C := C) (σ := [("pat", .str pat), ("STAR", .val (.ref st)), ("QUESTION_MARK", .str [46]), ("res", .own r), ("add", .app r), ("i", .int i), ("n", .int n), ("c", v1), ("j", .int ((i + w.length : Nat) : Int)), ("stuff", .str w), ("chunks", v4), ("k", v5), ("chunk", v6)]) (μ := (r, acc.map (partAV st)) :: μ) (x := w) (y := [45]); rwa [hocc] at this) rfl) (fun _ => ?_) fun q => nomatch q
  refine ex_let (a := .str x) (evs_replace (by dictfold_shaped) (by decide +kernel) (by decide +kernel) hr (by decide +kernel) (by room) (by decide)) (by dictfold_puts) (ex_nil tl)
end
end
section
noncomputable abbrev brD : List Stmt := ifE (brE.getD 1 default)
section
variable {T : TopCx} {C : Cx T S_tr} {pat : List Nat} {st r : Addr} {i n j : Nat} {v1 v2 v3 v4 v5 v6 : AV} {acc : List Part} {μ : Sto} {K : AF → Sig → Sto → Prop} {post w x : List Nat}
theorem dash_head (hpat : pat.drop i = w ++ 93 :: post) (hl : pat.length < 2 ^ 20) (hocc : occ w [45] = true)
    (h : Ex C brD (sgT pat st r i n v1 (.int ((i + w.length : Nat) : Int)) (.str w) v4 v5 v6) μ (Then C (brE.drop 2) K)) :
    Ex C brE (sgT pat st r i n v1 (.int ((i + w.length : Nat) : Int)) v3 v4 v5 v6) μ K := by
  unfold sgT at h ⊢
  refine ex_let (a := .str w) (evs_slice (by dictfold_shaped) (evo_some (by dictfold_shaped)) (evo_some (by dictfold_shaped)) (slcs ((slc_dn hpat rfl rfl).trans (by simp)) (by room))) (by dictfold_puts) ?_
  exact ex_if (b := false) (evt_cmp (ev_str (y := [45]) (by decide +kernel)) (by dictfold_shaped) (by have := cmp_nins (C := C) (σ := [("pat", .str pat), ("STAR", .val (.ref st)), ("QUESTION_MARK", .str [46]), ("res", .own r), ("add", .app r), ("i", .int i), ("n", .int n), ("c", v1), ("j", .int ((i + w.length : Nat) : Int)), ("stuff", .str w), ("chunks", v4), ("k", v5), ("chunk", v6)]) (μ := μ) (x := w) (y := [45]); rwa [hocc] at this) rfl) (fun q => nomatch q) fun _ => h
theorem dash_join {l : Addr} {xs ys : List (List Nat)} {y : List Nat} {k : AV} (hcode : C.env.code = .ref codeA) (hre : RepOk xs ys) (hlen : ys.length = xs.length) (hxl : xs.length ≤ 100) (hj : joinF [45] ys = y) (hok : JoinOk (stv [45]) (ys.map stv) = true)
    (h : ∀ v3, v3 = .str y → K .next (sgT pat st r i n v1 v2 v3 (.own l) k v6) μ) :
    Ex C (brD.drop 6) (sgT pat st r i n v1 v2 v3 (.own l) k v6) ((l, xs.map .str) :: μ) K := by
  unfold sgT at h ⊢
  refine ex_let (a := .str y) (evs_joinG (sep := [45]) (xs := xs) (ys := ys) (l := l) (by decide +kernel) (by dictfold_has) (.head _) hcode rfl (by refine (clos_eq ?_).trans rfl; intro p hp e; simp at hp; rcases hp with rfl | rfl <;> cases e) (by intro z hz; simp at hz; rcases hz with rfl | rfl <;> decide) (by decide +kernel) (by decide +kernel) rfl hlen hxl
    (fun cenv hc => eltT_rep hre (by decide +kernel) (by decide +kernel) (by decide +kernel) (by decide +kernel) rfl (by decide +kernel) (by decide +kernel) rfl rfl cenv hc) hj hok) (by dictfold_puts) ?_
  exact ex_drop (List.sublist_cons_self _ _) (ex_nil (h _ rfl))
end
end
section
section
variable {T : TopCx} {C : Cx T S_tr} {pat : List Nat} {st r : Addr} {i n j : Nat} {v1 v2 v3 v4 v5 v6 : AV} {acc : List Part} {μ : Sto} {K : AF → Sig → Sto → Prop} {post w x : List Nat}
theorem find_none {lo hi : Nat} (h : ∀ i, lo ≤ i → i < hi → pat[i]? ≠ some 45) (hle : hi ≤ pat.length) : (match Builtin.Str.occurrences (stv pat) (stv [45]) lo (min hi (stv pat).length) 1 with | k :: _ => (k : Int) | [] => -1) = -1 := by
  have e : min hi (stv pat).length = hi := Nat.min_eq_left (by simpa [Str.length] using hle)
  rw [e, find_miss h]
theorem find_some {lo hi : Nat} (h : pat[lo]? = some 45) (hlt : lo < hi) (hle : hi ≤ pat.length) : (match Builtin.Str.occurrences (stv pat) (stv [45]) lo (min hi (stv pat).length) 1 with | k :: _ => (k : Int) | [] => -1) = (lo : Int) := by
  have e : min hi (stv pat).length = hi := Nat.min_eq_left (by simpa [Str.length] using hle)
  obtain ⟨q, hq⟩ := find_hit h hlt
  rw [e, hq]
set_option maxHeartbeats 1000000 in
theorem dash_one (hI : interactive C.env = false) {k0 : Nat} {y : List Nat} (hcode : C.env.code = .ref codeA) (hpat : pat.drop i = w ++ 93 :: post) (hl : pat.length < 2 ^ 20) (hw0 : w ≠ []) (hwl : w.length ≤ 100) (hk0 : k0 = if w.head? = some 33 then i + 2 else i + 1)
    (hno : ∀ t, k0 ≤ t → t < i + w.length → pat[t]? ≠ some 45) (hre : RepOk [w] [y]) (hok : JoinOk (stv [45]) ([y].map stv) = true)
    (h : ∀ v3 v4 v5 v6, v3 = .str y → K .next (sgT pat st r i n v1 (.int ((i + w.length : Nat) : Int)) v3 v4 v5 v6) μ) :
    Ex C brD (sgT pat st r i n v1 (.int ((i + w.length : Nat) : Int)) v3 v4 v5 v6) μ K := by
  have hdl := drop_len hpat (by simp; lia)
  simp only [List.length_append, List.length_cons] at hdl
  obtain ⟨c, w', hw⟩ : ∃ c w', w = c :: w' := by cases w with | nil => exact absurd rfl hw0 | cons c w' => exact ⟨c, w', rfl⟩
  have hc : pat[i]? = some c := by have := get_drop hpat 0; rw [hw] at this; simpa using this
  have hwi : slc pat (some ((i : Nat) : Int)) (some ((i + w.length : Nat) : Int)) = w := (slc_dn hpat rfl rfl).trans (by simp)
  unfold sgT at h ⊢
  refine ex_assignN (evn_list evl_nil) (fun l => (by dictfold_puts)) fun l => ?_
  refine ex_let (a := .int ((k0 : Nat) : Int)) (evs_ife (b := decide (c = 33)) (evt_cmp (evs_item (by dictfold_shaped) (by dictfold_shaped) (itm_str (nth_nat hc) (by room))) (ev_str (y := [33]) (by decide +kernel)) cmp_eq1 rfl) (fun q => ?_) fun q => ?_) (by dictfold_puts) ?_
  · have hq : c = 33 := of_decide_eq_true q
    have : k0 = i + 2 := by rw [hk0, hw]; simp [hq]
    rw [this]
    exact (by dictfold_shaped)
  · have hq : c ≠ 33 := of_decide_eq_false q
    have : k0 = i + 1 := by rw [hk0, hw]; simp [hq]
    rw [this]
    exact (by dictfold_shaped)
  refine ex_while (fun m σ μ₁ => m = 0 ∧ σ = ([("pat", .str pat), ("STAR", .val (.ref st)), ("QUESTION_MARK", .str [46]), ("res", .own r), ("add", .app r), ("i", .int i), ("n", .int n), ("c", v1), ("j", .int ((i + w.length : Nat) : Int)), ("stuff", v3), ("chunks", .own l), ("k", .int k0), ("chunk", v6)] : Sig) ∧ μ₁ = (l, []) :: μ) (n := 0) ⟨rfl, rfl, rfl⟩ ?_
  rintro m σ μ₁ ⟨rfl, rfl, rfl⟩
  refine ⟨true, evt_val (by dictfold_shaped) tru_bool (fun _ => rfl), fun _ => ?_, fun q => nomatch q⟩
  refine ex_let (a := .int (-1)) (evs_meth (a := .str pat) (as := [.str [45], .int ((k0 : Nat) : Int), .int ((i + w.length : Nat) : Int)]) (by dictfold_shaped) isOf_str m_find (evl_cons (ev_str (y := [45]) (by decide +kernel)) (by dictfold_shaped)) (ca_find (find_none hno (by room)))) (by dictfold_puts) ?_
  refine ex_if (b := true) (evt_cmp (by dictfold_shaped) (by dictfold_shaped) (cmp_lt (i := -1) (j := 0)) rfl) (fun _ => ?_) fun q => nomatch q
  refine ex_brk ?_
  refine ex_let (a := .str w) (evs_slice (by dictfold_shaped) (evo_some (by dictfold_shaped)) (evo_some (by dictfold_shaped)) (slcs hwi (by room))) (by dictfold_puts) ?_
  have hemp : (!w.isEmpty) = true := by rw [hw]; rfl
  refine ex_if (b := true) (evt_val (a := .str w) (by dictfold_shaped) (by have := fun σ => tru_str (C := C) (σ := σ) (μ := (l, []) :: μ) (x := w) (by room); rw [hemp] at this; exact this _) (fun _ => rfl)) (fun _ => ?_) fun q => nomatch q
  refine ex_expr (evs_meth (a := .own l) (as := [.str w]) (by dictfold_shaped) (isOf_list (LstAt.own (.head _))) m_append (by dictfold_shaped) (ca_append (.head _) .head (by unfold sizeLine; simp))) ?_ hI
  refine ex_nil ?_
  refine ex_for (tl := false) (as := []) (fun as σ μ₁ => as = [] ∧ σ = ([("pat", .str pat), ("STAR", .val (.ref st)), ("QUESTION_MARK", .str [46]), ("res", .own r), ("add", .app r), ("i", .int i), ("n", .int n), ("c", v1), ("j", .int ((i + w.length : Nat) : Int)), ("stuff", v3), ("chunks", .own l), ("k", .int (-1)), ("chunk", .str w)] : Sig) ∧ μ₁ = (l, [.str w]) :: μ) (μ₁ := (l, [.str w]) :: μ)
    (evi_rng (a := 0) (b := 0) (c := -1) (n := 0) (evs_call (as := [.int 0, .int 0, .int (-1)]) (by dictfold_shaped) (evl_cons (evs_bin (a := .int (1 : Nat)) (c := .int 0) (evs_call (by dictfold_shaped) (by dictfold_shaped) (by dictfold_shaped2) (ca_len (LstAt.own (.head _)) rfl (by decide)) (fun _ _ => rfl)) (by dictfold_shaped) op_sub) (evl_cons (by dictfold_shaped) (evl_cons (ev_neg (by dictfold_shaped)) evl_nil))) (by dictfold_shaped2) (ca_range3 (by decide) (by decide) (by decide)) (fun _ _ => rfl)) (by decide +kernel) (by decide +kernel)) ⟨rfl, rfl, rfl⟩ ?_ ?_
  · rintro a as σ μ₁ ⟨h1, _⟩
    cases h1
  · rintro σ μ₁ ⟨_, rfl, rfl⟩
    refine ex_nil ?_
    exact dash_join (xs := [w]) (ys := [y]) hcode hre rfl (by simp) (by simp [joinF]) hok fun v3 he => h v3 _ _ _ he
theorem gts_one {x y : Nat} : ∀ {σ μ}, Cmp C .Gt (.str [x]) (.str [y]) σ μ (decide (y < x)) := fun {σ μ} => by
  have := cmp_gts (C := C) (σ := σ) (μ := μ) (x := [x]) (y := [y])
  have e : decide (([y] : List Nat) < [x]) = decide (y < x) := by
    rw [Bool.eq_iff_iff]; simp [List.cons_lt_cons_iff]
  rwa [e] at this
theorem slc_init {α : Type} (x : α) (r : List α) : slc (r ++ [x]) none (some (-1)) = r := by
  have h2 : clipAt (r ++ [x]).length (-1) = r.length := by have := clipAt_cast (r ++ [x]).length (-1); simp at this ⊢; lia
  unfold slc slo shi
  simp only [Option.elim, h2]
  simp
noncomputable def mrg (u0 : List Nat) (a b : Nat) (v0 : List Nat) : List (List Nat) := if b < a then [u0 ++ v0] else [u0 ++ [a], b :: v0]
set_option maxHeartbeats 2000000 in
theorem dash_two (hI : interactive C.env = false) {u0 v0 : List Nat} {a b : Nat} {y : List Nat} {ys : List (List Nat)} (hcode : C.env.code = .ref codeA) (hpat : pat.drop i = ((u0 ++ [a]) ++ 45 :: b :: v0) ++ 93 :: post) (hl : pat.length < 2 ^ 20) (hwl : u0.length + v0.length ≤ 50) (hv : v0.length ≤ 1)
    (hk0 : (if ((u0 ++ [a]) ++ 45 :: b :: v0).head? = some 33 then i + 2 else i + 1) = i + (u0.length + 1)) (hre : RepOk (mrg u0 a b v0) ys) (hys : ys.length = (mrg u0 a b v0).length) (hj : joinF [45] ys = y) (hok : JoinOk (stv [45]) (ys.map stv) = true)
    (h : ∀ i' v3 v4 v5 v6, v3 = .str y → K .next (sgT pat st r i' n v1 (.int ((i + ((u0 ++ [a]) ++ 45 :: b :: v0).length : Nat) : Int)) v3 v4 v5 v6) μ) :
    Ex C brD (sgT pat st r i n v1 (.int ((i + ((u0 ++ [a]) ++ 45 :: b :: v0).length : Nat) : Int)) v3 v4 v5 v6) μ K := by
  have hdl := drop_len hpat (by simp; lia)
  have hwlen : ((u0 ++ [a]) ++ 45 :: b :: v0).length = u0.length + v0.length + 3 := by simp; lia
  rw [hwlen] at h ⊢
  simp only [List.length_append, List.length_cons, List.length_nil] at hdl
  obtain ⟨c, w', hw⟩ : ∃ c w', (u0 ++ [a]) ++ 45 :: b :: v0 = c :: w' := by cases u0 with | nil => exact ⟨_, _, rfl⟩ | cons c u0 => exact ⟨_, _, rfl⟩
  have hc : pat[i]? = some c := by have := get_drop hpat 0; rw [hw] at this; simpa using this
  rw [hw] at hk0
  have hp45 : pat[i + (u0.length + 1)]? = some 45 := by
    rw [get_drop hpat, List.append_assoc, List.getElem?_append_right (by simp)]; simp
  have hu : slc pat (some ((i : Nat) : Int)) (some ((i + (u0.length + 1) : Nat) : Int)) = u0 ++ [a] := (slc_dn hpat rfl (n := u0.length + 1) rfl).trans (by rw [List.append_assoc, List.take_append_of_le_length (by simp), List.take_of_length_le (by simp)])
  have hd2 : pat.drop (i + (u0.length + 1) + 1) = (b :: v0) ++ 93 :: post := by
    rw [show i + (u0.length + 1) + 1 = i + (u0.length + 2) by lia, drop_add hpat]
    have : u0.length + 2 = (u0 ++ [a]).length + 1 := by simp
    rw [this, List.append_assoc, List.drop_append]
    simp
  have hvs : slc pat (some ((i + (u0.length + 1) + 1 : Nat) : Int)) (some ((i + (u0.length + v0.length + 3) : Nat) : Int)) = b :: v0 := (slc_dn hd2 rfl (n := v0.length + 1) (by room)).trans (by simp)
  unfold sgT at h ⊢
  refine ex_assignN (evn_list evl_nil) (fun l => (by dictfold_puts)) fun l => ?_
  refine ex_let (a := .int ((i + (u0.length + 1) : Nat) : Int)) (evs_ife (b := decide (c = 33)) (evt_cmp (evs_item (by dictfold_shaped) (by dictfold_shaped) (itm_str (nth_nat hc) (by room))) (ev_str (y := [33]) (by decide +kernel)) cmp_eq1 rfl) (fun q => ?_) fun q => ?_) (by dictfold_puts) ?_
  · have hq : c = 33 := of_decide_eq_true q
    have : i + (u0.length + 1) = i + 2 := by rw [← hk0]; simp [hq]
    rw [this]
    exact (by dictfold_shaped)
  · have hq : c ≠ 33 := of_decide_eq_false q
    have : i + (u0.length + 1) = i + 1 := by rw [← hk0]; simp [hq]
    rw [this]
    exact (by dictfold_shaped)
  have hJ : i + (u0.length + v0.length + 3) ≤ pat.length := by room
  let sg : Nat → Int → AV → Sig := fun i' k c6 => [("pat", .str pat), ("STAR", .val (.ref st)), ("QUESTION_MARK", .str [46]), ("res", .own r), ("add", .app r), ("i", .int i'), ("n", .int n), ("c", v1), ("j", .int ((i + (u0.length + v0.length + 3) : Nat) : Int)), ("stuff", v3), ("chunks", .own l), ("k", .int k), ("chunk", c6)]
  refine ex_while (fun m σ μ₁ => (m = 1 ∧ σ = sg i ((i + (u0.length + 1) : Nat) : Int) v6 ∧ μ₁ = (l, []) :: μ) ∨ (m = 0 ∧ σ = sg (i + (u0.length + 1) + 1) ((i + (u0.length + 1) + 3 : Nat) : Int) v6 ∧ μ₁ = (l, [.str (u0 ++ [a])]) :: μ)) (n := 1) (.inl ⟨rfl, rfl, rfl⟩) ?_
  rintro m σ μ₁ (⟨rfl, rfl, rfl⟩ | ⟨rfl, rfl, rfl⟩)
  · refine ⟨true, evt_val (by dictfold_shaped) tru_bool (fun _ => rfl), fun _ => ?_, fun q => nomatch q⟩
    refine ex_let (a := .int ((i + (u0.length + 1) : Nat) : Int)) (evs_meth (a := .str pat) (as := [.str [45], .int ((i + (u0.length + 1) : Nat) : Int), .int ((i + (u0.length + v0.length + 3) : Nat) : Int)]) (by dictfold_shaped) isOf_str m_find (evl_cons (ev_str (y := [45]) (by decide +kernel)) (by dictfold_shaped)) (ca_find (find_some hp45 (by room) hJ))) (by dictfold_puts) ?_
    refine ex_if (b := false) (evt_cmp (by dictfold_shaped) (by dictfold_shaped) (by have := cmp_ltN (C := C) (σ := sg i ((i + (u0.length + 1) : Nat) : Int) v6) (μ := (l, []) :: μ) (m := i + (u0.length + 1)) (n := 0); rwa [decide_eq_false (by room)] at this) rfl) (fun q => nomatch q) fun _ => ex_nil ?_
    refine ex_expr (evs_meth (a := .own l) (as := [.str (u0 ++ [a])]) (by dictfold_shaped) (isOf_list (LstAt.own (.head _))) m_append (evl_cons (evs_slice (by dictfold_shaped) (evo_some (by dictfold_shaped)) (evo_some (by dictfold_shaped)) (slcs hu (by room))) evl_nil) (ca_append (.head _) .head (by unfold sizeLine; simp))) ?_ hI
    refine ex_let (a := .int ((i + (u0.length + 1) + 1 : Nat) : Int)) (by dictfold_shaped) (by dictfold_puts) ?_
    refine ex_let (a := .int ((i + (u0.length + 1) + 3 : Nat) : Int)) (by dictfold_shaped) (by dictfold_puts) ?_
    exact ex_nil ⟨0, by decide, .inr ⟨rfl, rfl, rfl⟩⟩
  refine ⟨true, evt_val (by dictfold_shaped) tru_bool (fun _ => rfl), fun _ => ?_, fun q => nomatch q⟩
  refine ex_let (a := .int (-1)) (evs_meth (a := .str pat) (as := [.str [45], .int ((i + (u0.length + 1) + 3 : Nat) : Int), .int ((i + (u0.length + v0.length + 3) : Nat) : Int)]) (by dictfold_shaped) isOf_str m_find (evl_cons (ev_str (y := [45]) (by decide +kernel)) (by dictfold_shaped)) (ca_find (find_none (fun t h1 h2 => by lia) hJ))) (by dictfold_puts) ?_
  refine ex_if (b := true) (evt_cmp (by dictfold_shaped) (by dictfold_shaped) (cmp_lt (i := -1) (j := 0)) rfl) (fun _ => ?_) fun q => nomatch q
  refine ex_brk ?_
  refine ex_let (a := .str (b :: v0)) (evs_slice (by dictfold_shaped) (evo_some (by dictfold_shaped)) (evo_some (by dictfold_shaped)) (slcs hvs (by room))) (by dictfold_puts) ?_
  refine ex_if (b := true) (evt_val (a := .str (b :: v0)) (by dictfold_shaped) (tru_str (x := b :: v0) (by simp; lia)) (fun _ => rfl)) (fun _ => ?_) fun q => nomatch q
  refine ex_expr (evs_meth (a := .own l) (as := [.str (b :: v0)]) (by dictfold_shaped) (isOf_list (LstAt.own (.head _))) m_append (by dictfold_shaped) (ca_append (.head _) .head (by unfold sizeLine; simp))) ?_ hI
  refine ex_nil ?_
  refine ex_for (tl := false) (as := [.int 1]) (fun as σ μ₁ => ∃ k, (as = [.int 1] ∧ σ = sg (i + (u0.length + 1) + 1) k (.str (b :: v0)) ∧ μ₁ = (l, [.str (u0 ++ [a]), .str (b :: v0)]) :: μ) ∨ (as = [] ∧ σ = sg (i + (u0.length + 1) + 1) k (.str (b :: v0)) ∧ μ₁ = (l, (mrg u0 a b v0).map .str) :: μ)) (μ₁ := (l, [.str (u0 ++ [a]), .str (b :: v0)]) :: μ)
    (evi_rng (a := 1) (b := 0) (c := -1) (n := 1) (evs_call (as := [.int 1, .int 0, .int (-1)]) (by dictfold_shaped) (evl_cons (evs_bin (a := .int (2 : Nat)) (c := .int 1) (evs_call (by dictfold_shaped) (by dictfold_shaped) (by dictfold_shaped2) (ca_len (LstAt.own (.head _)) rfl (by decide)) (fun _ _ => rfl)) (by dictfold_shaped) op_sub) (evl_cons (by dictfold_shaped) (evl_cons (ev_neg (by dictfold_shaped)) evl_nil))) (by dictfold_shaped2) (ca_range3 (by decide) (by decide) (by decide)) (fun _ _ => rfl)) (by decide +kernel) (by decide +kernel)) ⟨-1, .inl ⟨rfl, rfl, rfl⟩⟩ ?_ ?_
  · rintro a' as σ μ₁ ⟨k, ⟨has, rfl, rfl⟩ | ⟨has, _⟩⟩
    · cases has
      refine asg_name (by dictfold_puts) ?_
      have hm : (l, [AV.str (u0 ++ [a]), AV.str (b :: v0)]) ∈ (l, [AV.str (u0 ++ [a]), AV.str (b :: v0)]) :: μ := .head _
      have i0 : ∀ {σ : Sig}, Itm C (.own l) 0 σ ((l, [AV.str (u0 ++ [a]), AV.str (b :: v0)]) :: μ) (.str (u0 ++ [a])) := fun {σ} => itm_list (LstAt.own hm) (nth_nat (i := 0) rfl) (by simp)
      have i1 : ∀ {σ : Sig}, Itm C (.own l) 1 σ ((l, [AV.str (u0 ++ [a]), AV.str (b :: v0)]) :: μ) (.str (b :: v0)) := fun {σ} => itm_list (LstAt.own hm) (nth_nat (i := 1) rfl) (by simp)
      refine ex_if (b := decide (b < a)) (evt_cmp (a := .str [a]) (b := .str [b]) (evs_item (a := .str (u0 ++ [a])) (i := -1) (evs_item (a := .own l) (i := 0) (by dictfold_shaped) (evs_bin (c := .int 0) (by dictfold_shaped) (by dictfold_shaped) op_sub) i0) (ev_neg (by dictfold_shaped)) (itm_str nth_neg1 (by simp; lia))) (evs_item (a := .str (b :: v0)) (evs_item (a := .own l) (by dictfold_shaped) (by dictfold_shaped) i1) (by dictfold_shaped) (itm_str (nth_nat (i := 0) rfl) (by simp; lia))) gts_one rfl) (fun q => ?_) fun q => ?_
      · have hba : b < a := of_decide_eq_true q
        refine ex_set (μ₁ := (l, [AV.str (u0 ++ [a]), AV.str (b :: v0)]) :: μ) (μ₂ := (l, [AV.str (u0 ++ [a]), AV.str (b :: v0)]) :: μ) (i := 0) (a := .own l) (b := .str (u0 ++ v0)) ?_ ?_ ?_ (set_own hm (upd_up hm) (by decide) (by simp) (by simp)) ?_
        · refine evs_bin (μ₁ := (l, [AV.str (u0 ++ [a]), AV.str (b :: v0)]) :: μ) (a := .str u0) (b := .str v0) ?_ ?_ (op_adds (Nat.le_trans (Nat.le_trans hwl (by decide)) (by decide : 50 ≤ sizeLine)))
          · refine evs_slice (a := .str (u0 ++ [a])) ?_ evo_none (evo_some (ev_neg (by dictfold_shaped))) (slcs (slc_init _ _) (by simp; lia))
            exact evs_item (a := .own l) (i := 0) (by dictfold_shaped) (evs_bin (c := .int 0) (by dictfold_shaped) (by dictfold_shaped) op_sub) i0
          · refine evs_slice (a := .str (b :: v0)) ?_ (evo_some (by dictfold_shaped)) evo_none (slcs (slc_1n _ _) (by simp; lia))
            exact evs_item (a := .own l) (i := 1) (by dictfold_shaped) (by dictfold_shaped) i1
        · exact (by dictfold_shaped)
        · exact evs_bin (c := .int 0) (by dictfold_shaped) (by dictfold_shaped) op_sub
        refine ex_delLast (μ' := []) (xs := [.str (u0 ++ v0)]) (c := .str (b :: v0)) (by show EvD C _ _ _ (.int 1); exact (by dictfold_shaped)) (by dictfold_has) (by simp [upd]) (by simp) ?_
        refine ex_nil (ex_nil ⟨1, .inr ⟨rfl, rfl, ?_⟩⟩)
        simp [mrg, hba, upd]
      · have hba : ¬ b < a := of_decide_eq_false q
        refine ex_nil (ex_nil ⟨1, .inr ⟨rfl, rfl, ?_⟩⟩)
        simp [mrg, hba]
    · cases has
  · rintro σ μ₁ ⟨k, ⟨has, _⟩ | ⟨_, rfl, rfl⟩⟩
    · cases has
    · refine ex_nil ?_
      have hml : (mrg u0 a b v0).length ≤ 2 := by unfold mrg; split <;> simp
      exact dash_join (K := K) hcode hre hys (by room) hj hok fun v3 he => h (i + (u0.length + 1) + 1) v3 _ _ _ he
end
end
section
noncomputable def repB (p : List Nat × List Nat × List Nat) : Bool := decide (p.1.length ≤ 100 ∧ p.2.1.length ≤ 100 ∧ Txt.replace (stv p.1) (stv [92]) (stv [92, 92]) = stv p.2.1 ∧ Txt.replace (stv p.2.1) (stv [45]) (stv [92, 45]) = stv p.2.2)
theorem repOk_of (l : List (List Nat × List Nat × List Nat)) (h : l.all repB = true) : RepOk (l.map (·.1)) (l.map (·.2.2)) := by
  intro i x hx
  rw [List.getElem?_map] at hx
  obtain ⟨p, hp, rfl⟩ := Option.map_eq_some_iff.mp hx
  have := of_decide_eq_true (List.all_eq_true.mp h p (List.mem_of_getElem? hp))
  exact ⟨this.1, p.2.1, p.2.2, by rw [List.getElem?_map, hp]; rfl, this.2.1, this.2.2.1, this.2.2.2⟩
noncomputable def brTab : List (List Nat × List Nat) := [([97, 94], [97, 94]), ([94, 97], [94, 97]), ([33, 97], [33, 97]), ([33, 94], [33, 94]), ([33, 33], [33, 33]), ([92], [92, 92]), ([33, 45, 97], [33, 92, 45, 97]), ([92, 45, 97], [92, 92, 45, 97]), ([97, 45, 33], []), ([33, 97, 45, 33], [33])]
noncomputable def brPlain (w x : List Nat) : Bool := decide ((∀ y ∈ w, y ≠ 93) ∧ w ≠ [] ∧ w ≠ [33] ∧ occ w [45] = false ∧ w.length ≤ 100 ∧ Txt.replace (stv w) (stv [92]) (stv [92, 92]) = stv x ∧ x.length ≤ 1000 ∧ fails (Sre.forSearch patWords x.toArray 1 0 x.length false) = true)
section
variable {T : TopCx} {C : Cx T S_tr} {pat : List Nat} {st r : Addr} {i n j : Nat} {v1 v2 v3 v4 v5 v6 : AV} {acc : List Part} {μ : Sto} {K : AF → Sig → Sto → Prop} {post w x : List Nat}
noncomputable abbrev BrEnd (C : Cx T S_tr) (pat : List Nat) (st r : Addr) (i : Nat) (w x : List Nat) (acc : List Part) (μ : Sto) (K : AF → Sig → Sto → Prop) : Prop :=
  ∀ v1 v2 v3 v4 v5 v6, K .next (sgT pat st r (i + w.length + 2) pat.length v1 v2 v3 v4 v5 v6) ((r, (acc ++ [some (brTxt x)]).map (partAV st)) :: μ)
theorem drop_br (hpat : pat.drop i = 91 :: (w ++ 93 :: post)) : pat.drop (i + 1) = w ++ 93 :: post := by
  have := drop_add hpat (i := 1); simpa using this
theorem br_plain (hI : interactive C.env = false) (hcode : C.env.code = .ref codeA) (hb : brPlain w x = true) (hpat : pat.drop i = 91 :: (w ++ 93 :: post)) (hl : pat.length < 2 ^ 20) (hal : acc.length < 1000)
    (h : BrEnd C pat st r i w x acc μ K) : Ex C (forB 8 3) (sgT pat st r i pat.length v1 v2 v3 v4 v5 v6) ((r, acc.map (partAV st)) :: μ) K := by
  obtain ⟨a1, a2, a3, a4, a5, a6, a7, a8⟩ := of_decide_eq_true hb
  have e := drop_br hpat
  refine br_head hpat hl fun K' hK => ?_
  refine scan_turn e hl a1 a2 a3 ?_
  refine plain_br hI hcode e hl a4 a5 a6 a7 hal a8 fun v3 => hK _ _ ?_
  have e2 : i + 1 + w.length + 1 = i + w.length + 2 := by room
  rw [e2]
  exact h _ _ _ _ _ _
theorem br_one (hI : interactive C.env = false) (hcode : C.env.code = .ref codeA) (hw : w = [33, 45, 97]) (hx : x = [33, 92, 45, 97]) (hpat : pat.drop i = 91 :: (w ++ 93 :: post)) (hl : pat.length < 2 ^ 20) (hal : acc.length < 1000)
    (h : BrEnd C pat st r i w x acc μ K) : Ex C (forB 8 3) (sgT pat st r i pat.length v1 v2 v3 v4 v5 v6) ((r, acc.map (partAV st)) :: μ) K := by
  have e := drop_br hpat
  refine br_head hpat hl fun K' hK => ?_
  refine scan_turn e hl (by rw [hw]; decide) (by rw [hw]; decide) (by rw [hw]; decide) ?_
  refine dash_head e hl (by rw [hw]; decide +kernel) ?_
  refine dash_one hI (k0 := i + 1 + 2) hcode e hl (by rw [hw]; decide) (by rw [hw]; decide) (by rw [hw]; rfl) (fun t h1 h2 => ?_) (y := x) (by rw [hw, hx]; exact repOk_of [([33, 45, 97], [33, 45, 97], [33, 92, 45, 97])] (by decide +kernel)) (by rw [hx]; decide +kernel) fun v3 v4 v5 v6 hv => ?_
  · rw [hw] at h2
    have : t = i + 1 + 2 := by simp at h2; lia
    subst this
    have := get_drop e 2
    rw [hw] at this
    rw [this]
    simp
  · subst hv
    refine tail_turn hI hcode (by rw [hx]; decide) hal (by rw [hx]; decide +kernel) fun v3 => hK _ _ ?_
    have e2 : i + 1 + w.length + 1 = i + w.length + 2 := by room
    rw [e2]
    exact h _ _ _ _ _ _
theorem br_two (hI : interactive C.env = false) (hcode : C.env.code = .ref codeA) {u0 v0 : List Nat} {a b : Nat} {ys : List (List Nat)} (hw : w = (u0 ++ [a]) ++ 45 :: b :: v0) (hpat : pat.drop i = 91 :: (w ++ 93 :: post)) (hl : pat.length < 2 ^ 20) (hal : acc.length < 1000)
    (hwl : u0.length + v0.length ≤ 50) (hv : v0.length ≤ 1) (h93 : ∀ y ∈ w, y ≠ 93) (hocc : occ w [45] = true)
    (hk0 : ∀ i, (if ((u0 ++ [a]) ++ 45 :: b :: v0).head? = some 33 then i + 2 else i + 1) = i + (u0.length + 1)) (hre : RepOk (mrg u0 a b v0) ys) (hys : ys.length = (mrg u0 a b v0).length) (hj : joinF [45] ys = x) (hok : JoinOk (stv [45]) (ys.map stv) = true)
    (hx : x.length ≤ 1000) (hf : fails (Sre.forSearch patWords x.toArray 1 0 x.length false) = true)
    (h : BrEnd C pat st r i w x acc μ K) : Ex C (forB 8 3) (sgT pat st r i pat.length v1 v2 v3 v4 v5 v6) ((r, acc.map (partAV st)) :: μ) K := by
  have e := drop_br hpat
  refine br_head hpat hl fun K' hK => ?_
  refine scan_turn e hl h93 (by rw [hw]; simp) (by rw [hw]; cases u0 <;> simp) ?_
  refine dash_head e hl hocc ?_
  subst hw
  refine dash_two hI hcode e hl hwl hv (hk0 _) hre hys hj hok fun i' v3 v4 v5 v6 hv => ?_
  subst hv
  refine tail_turn hI hcode hx hal hf fun v3 => hK _ _ ?_
  have e2 : i + 1 + ((u0 ++ [a]) ++ 45 :: b :: v0).length + 1 = i + ((u0 ++ [a]) ++ 45 :: b :: v0).length + 2 := by room
  rw [e2]
  exact h _ _ _ _ _ _
theorem br_turn (hI : interactive C.env = false) (hcode : C.env.code = .ref codeA) (hw : (w, x) ∈ brTab) (hpat : pat.drop i = 91 :: (w ++ 93 :: post)) (hl : pat.length < 2 ^ 20) (hal : acc.length < 1000)
    (h : BrEnd C pat st r i w x acc μ K) : Ex C (forB 8 3) (sgT pat st r i pat.length v1 v2 v3 v4 v5 v6) ((r, acc.map (partAV st)) :: μ) K := by
  simp only [brTab, List.mem_cons, Prod.mk.injEq, List.not_mem_nil, or_false] at hw
  rcases hw with ⟨hw, hx⟩ | ⟨hw, hx⟩ | ⟨hw, hx⟩ | ⟨hw, hx⟩ | ⟨hw, hx⟩ | ⟨hw, hx⟩ | ⟨hw, hx⟩ | ⟨hw, hx⟩ | ⟨hw, hx⟩ | ⟨hw, hx⟩
  · exact br_plain hI hcode (by rw [hw, hx]; decide +kernel) hpat hl hal h
  · exact br_plain hI hcode (by rw [hw, hx]; decide +kernel) hpat hl hal h
  · exact br_plain hI hcode (by rw [hw, hx]; decide +kernel) hpat hl hal h
  · exact br_plain hI hcode (by rw [hw, hx]; decide +kernel) hpat hl hal h
  · exact br_plain hI hcode (by rw [hw, hx]; decide +kernel) hpat hl hal h
  · exact br_plain hI hcode (by rw [hw, hx]; decide +kernel) hpat hl hal h
  · exact br_one hI hcode hw hx hpat hl hal h
  · exact br_two hI hcode (u0 := []) (a := 92) (b := 97) (v0 := []) hw hpat hl hal (by decide) (by decide) (by rw [hw]; decide) (by rw [hw]; decide +kernel) (fun _ => rfl) (repOk_of [([92], [92, 92], [92, 92]), ([97], [97], [97])] (by decide +kernel)) rfl (by rw [hx]; rfl) (by decide +kernel) (by rw [hx]; decide) (by rw [hx]; decide +kernel) h
  · exact br_two hI hcode (u0 := []) (a := 97) (b := 33) (v0 := []) hw hpat hl hal (by decide) (by decide) (by rw [hw]; decide) (by rw [hw]; decide +kernel) (fun _ => rfl) (repOk_of [([], [], [])] (by decide +kernel)) rfl (by rw [hx]; rfl) (by decide +kernel) (by rw [hx]; decide) (by rw [hx]; decide +kernel) h
  · exact br_two hI hcode (u0 := [33]) (a := 97) (b := 33) (v0 := []) hw hpat hl hal (by decide) (by decide) (by rw [hw]; decide) (by rw [hw]; decide +kernel) (fun _ => rfl) (repOk_of [([33], [33], [33])] (by decide +kernel)) rfl (by rw [hx]; rfl) (by decide +kernel) (by rw [hx]; decide) (by rw [hx]; decide +kernel) h
end
end
section
noncomputable def ptx : List Nat → List Nat
  | [63] => [46]
  | [c] => esc c
  | _ :: r => brTxt ((brTab.lookup r.dropLast).getD [])
  | [] => []
noncomputable def stepP (acc : List Part) (w : List Nat) : List Part := if w = [42] then starP acc else acc ++ [some (ptx w)]
noncomputable def pcOk (w : List Nat) : Bool := w == [42] || w == [63] || ([94, 92, 97, 33].any fun c => w == [c]) || (brTab.any fun q => w == 91 :: (q.1 ++ [93]) && ptx w == brTxt q.2)
theorem pcs_ok : ∀ p ∈ pcs, pcOk p.1 = true := by
  have : pcs.all (fun p => pcOk p.1) = true := by decide +kernel
  exact fun p hp => List.all_eq_true.mp this p hp
theorem starP_len (acc : List Part) : (starP acc).length ≤ acc.length + 1 := by
  unfold starP; split <;> simp
theorem stepP_len (acc : List Part) (w : List Nat) : (stepP acc w).length ≤ acc.length + 1 := by
  unfold stepP; split
  · exact starP_len acc
  · simp
theorem foldP_len : ∀ (ws : List (List Nat)) (acc : List Part), (ws.foldl stepP acc).length ≤ acc.length + ws.length
  | [], acc => by simp
  | w :: ws, acc => by
    have h1 := foldP_len ws (stepP acc w)
    have h2 := stepP_len acc w
    simp only [List.foldl_cons, List.length_cons]
    lia
section
variable {T : TopCx} {C : Cx T S_tr} {pat : List Nat} {st r : Addr} {i n j : Nat} {v1 v2 v3 v4 v5 v6 : AV} {acc : List Part} {μ : Sto} {K : AF → Sig → Sto → Prop} {post w x : List Nat}
theorem sw_in {env : Env} {k k' k1 : Nat} {p1 p2 p3 p4 p5 p6 tp tp' : Pos} {y : Str} {i : Int} (h1 : env.blockKind = .function) (h2 : env.kindOf (Str.ofString "i") = some .local) (h3 : env.kindOf (Str.ofString "n") = some .local) (hl : (p1.line == p2.line) = true) :
    swappedStores [.Tuple [.Name (Str.ofString "i") p1, .Name (Str.ofString "n") p2] k tp] (.Tuple [.Constant (.int i) k1 p3, .Call (.Name (Str.ofString "len") p4) [.Name y p5] [] p6] k' tp') env = pure (some [Str.ofString "i", Str.ofString "n"]) := by
  have e : (p2.line == p1.line) = true := by simpa using (by simpa using hl : p1.line = p2.line).symm
  unfold swappedStores
  simp only [List.length_cons, List.length_nil, List.any_cons, List.any_nil, List.head?_cons, Option.map_some, Option.getD_some, Expr.pos, List.filterMap_cons, List.filterMap_nil, h1, h2, h3, e, beq_self_eq_true, Bool.and_self, if_true]
  have e1 : ([Str.ofString "i", Str.ofString "n"] : List Str).eraseDups.length = 2 := by decide +kernel
  rw [e1]
  rfl
theorem ex_ok {S : FnS} {C : Cx T S} {rest : List Stmt} {σ : Sig} (h : C.Ok → Ex C rest σ μ K) : Ex C rest σ μ K := ⟨fun ok B s Z R => (h ok).run ok B s Z R⟩
theorem piece_turn (hI : interactive C.env = false) (hd : 1 ≤ C.d) (hcode : C.env.code = .ref codeA) (hw : pcOk w = true) (hpat : pat.drop i = w ++ post) (hl : pat.length < 2 ^ 20) (hal : acc.length < 1000)
    (h : ∀ v1 v2 v3 v4 v5 v6, K .next (sgT pat st r (i + w.length) pat.length v1 v2 v3 v4 v5 v6) ((r, (stepP acc w).map (partAV st)) :: μ)) :
    Ex C (forB 8 3) (sgT pat st r i pat.length v1 v2 v3 v4 v5 v6) ((r, acc.map (partAV st)) :: μ) K := by
  unfold pcOk at hw
  rw [Bool.or_eq_true, Bool.or_eq_true, Bool.or_eq_true] at hw
  rcases hw with ((hw | hw) | hw) | hw
  · have e : w = [42] := by simpa using hw
    subst e
    exact star_turn hI hpat hl hal h
  · have e : w = [63] := by simpa using hw
    subst e
    exact q_turn hI hpat hl hal h
  · obtain ⟨c, hc, e⟩ := List.any_eq_true.mp hw
    have e : w = [c] := by simpa using e
    subst e
    have hc' : c = 94 ∨ c = 92 ∨ c = 97 ∨ c = 33 := by simpa using hc
    have e2 : stepP acc [c] = acc ++ [some (esc c)] := by rcases hc' with rfl | rfl | rfl | rfl <;> rfl
    rw [e2] at h
    exact s_turn hI hd hc' hpat hl hal h
  · obtain ⟨⟨q, x⟩, hq, e⟩ := List.any_eq_true.mp hw
    obtain ⟨e, e2⟩ : w = 91 :: (q ++ [93]) ∧ ptx w = brTxt x := by simpa using e
    have e3 : stepP acc w = acc ++ [some (brTxt x)] := by unfold stepP; rw [if_neg (by rw [e]; simp), e2]
    rw [e3] at h
    have hlen : w.length = q.length + 2 := by rw [e]; simp
    rw [hlen] at h
    refine br_turn hI hcode hq (post := post) (by rw [hpat, e]; simp) hl hal fun v1 v2 v3 v4 v5 v6 => ?_
    exact h v1 v2 v3 v4 v5 v6
inductive WTr (pat : List Nat) (ws : List (List Nat)) (st r : Addr) (μ : Sto) : Nat → Sig → Sto → Prop
  | mk (dn rs : List (List Nat)) (v1 v2 v3 v4 v5 v6 : AV) (σ : Sig) (μ₁ : Sto) (hw : ws = dn ++ rs) (e1 : σ = sgT pat st r dn.flatten.length pat.length v1 v2 v3 v4 v5 v6) (e2 : μ₁ = (r, (dn.foldl stepP []).map (partAV st)) :: μ) : WTr pat ws st r μ rs.length σ μ₁
set_option maxHeartbeats 1000000 in
theorem fn_translate_ {d : Nat} (hd1 : 1 ≤ d) {ws : List (List Nat)} (hws : ∀ w ∈ ws, pcOk w = true) (hn : ws.length < 1000) (hpat : pat = ws.flatten) (hl : pat.length < 2 ^ 20) :
    Fn T (.ref 62) (d + 1) [.str pat, .val (.ref st), .str [46]] μ (.lst ((ws.foldl stepP []).map (partAV st))) μ := by
  refine fn_introC (S := S_tr) (σ₀ := [("pat", .str pat), ("STAR", .val (.ref st)), ("QUESTION_MARK", .str [46]), ("res", .un), ("add", .un), ("i", .un), ("n", .un), ("c", .un), ("j", .un), ("stuff", .un), ("chunks", .un), ("k", .un), ("chunk", .un)]) (i := 8) (params := ["pat", "STAR", "QUESTION_MARK"]) (by decide) (by decide +kernel) rfl (by simp) rfl fun nd C hC hI hcd => ?_
  have hdC := Nat.le_trans hd1 (Nat.le_of_eq hC.symm)
  refine ex_ok fun ok => ?_
  have hcode : C.env.code = .ref codeA := by
    obtain ⟨o, fd, h1, h2, h3⟩ := ok.top.code
    rw [hcd fd o h1 h2, h3]
  refine ex_assignN (evn_list evl_nil) (fun r => (by dictfold_puts)) fun r => ?_
  refine ex_let (a := .app r) (ev_app (by dictfold_has) (.head _)) (by dictfold_puts) ?_
  refine ex_asgS (a := .int ((0 : Nat) : Int)) (b := .int (pat.length : Nat)) (ev_tuple (evl_cons (by dictfold_shaped) (evl_cons (evs_call (by dictfold_shaped) (by dictfold_shaped) (by dictfold_shaped2) (ca_len_str (by room)) (fun _ _ => rfl)) evl_nil)) (show 2 ≤ sizeLine by decide)) (by dictfold_puts) (by dictfold_puts) ?_ (fun _ => rfl) (fun env h1 h2 h3 => sw_in h1 h2 h3 rfl) (by dictfold_has) (by dictfold_has)
  refine ex_while (WTr pat ws st r μ) (n := ws.length) ⟨[], ws, .un, .un, .un, .un, .un, .un, _, _, rfl, rfl, rfl⟩ ?_
  rintro m σ μ₁ ⟨dn, rs, v1, v2, v3, v4, v5, v6, _, _, hw, rfl, rfl⟩
  have hfl : pat = dn.flatten ++ rs.flatten := by rw [hpat, hw, List.flatten_append]
  cases rs with
  | nil =>
    have hlen : dn.flatten.length = pat.length := by rw [hfl]; simp
    refine ⟨false, ?_, (fun q => nomatch q), fun _ => ex_nil ?_⟩
    · unfold sgT
      exact evt_cmp (by dictfold_shaped) (by dictfold_shaped) (by have := cmp_ltN (C := C) (σ := sgT pat st r dn.flatten.length pat.length v1 v2 v3 v4 v5 v6) (μ := (r, (dn.foldl stepP []).map (partAV st)) :: μ) (m := dn.flatten.length) (n := pat.length); rwa [decide_eq_false (by room)] at this) rfl
    · have e : dn = ws := by rw [hw]; simp
      subst e
      unfold sgT
      refine ex_assert (evt_cmp (by dictfold_shaped) (by dictfold_shaped) (by have := cmp_eqN (C := C) (σ := sgT pat st r dn.flatten.length pat.length v1 v2 v3 v4 v5 v6) (μ := (r, (dn.foldl stepP []).map (partAV st)) :: μ) (m := dn.flatten.length) (n := pat.length); rwa [decide_eq_true hlen] at this) rfl) ?_
      refine ex_freeze (by sl_close) (FzM.refl _ _ _) ?_
      exact ex_ret (by dictfold_shaped) ⟨rfl, List.Sublist.refl _⟩
  | cons w rs =>
    have hwok := hws w (by rw [hw]; simp)
    have hw0 : 0 < w.length := by
      cases w with
      | nil => exact absurd hwok (by decide +kernel)
      | cons c w => simp
    have hdrop : pat.drop dn.flatten.length = w ++ rs.flatten := by rw [hfl]; simp
    have hlt : dn.flatten.length < pat.length := by rw [hfl]; simp; lia
    refine ⟨true, ?_, fun _ => ?_, (fun q => nomatch q)⟩
    · unfold sgT
      exact evt_cmp (by dictfold_shaped) (by dictfold_shaped) (ltb hlt) rfl
    · have hal := foldP_len dn []
      have hdl : dn.length < 1000 := by rw [hw] at hn; simp at hn; lia
      refine piece_turn hI (by room) hcode hwok hdrop hl (by simp at hal; lia) fun v1 v2 v3 v4 v5 v6 => ?_
      refine ⟨rs.length, by simp, dn ++ [w], rs, v1, v2, v3, v4, v5, v6, _, _, by rw [hw]; simp, ?_, ?_⟩
      · have : (dn ++ [w]).flatten.length = dn.flatten.length + w.length := by simp
        rw [this]
      · simp
end
end
section
noncomputable def jst : List (List (List Nat)) → List Nat
  | [] => []
  | r :: rs => if rs = [] then [46, 42] ++ r.flatten else [40, 63, 62, 46, 42, 63] ++ r.flatten ++ [41] ++ jst rs
noncomputable def jtail (rs : List (List (List Nat))) : List Part := (rs.map fun r => none :: r.map some).flatten
noncomputable abbrev S_join : FnS := { names := [("inp", false), ("STAR", false), ("res", false), ("add", false), ("i", false), ("n", false), ("fixed", false)], globs := [("len", .builtin "len")] }
noncomputable def sgJ (L : List AV) (st r : Addr) (i n : Nat) (v : AV) : Sig := [("inp", .lst L), ("STAR", .val (.ref st)), ("res", .own r), ("add", .app r), ("i", .int i), ("n", .int n), ("fixed", v)]
section
variable {T : TopCx} {C : Cx T S_join} {ps : List Part} {st r : Addr} {i n : Nat} {v : AV} {acc : List (List Nat)} {μ : Sto} {K : AF → Sig → Sto → Prop}
theorem p_itm {p : Part} (h : ps[i]? = some p) (hl : ps.length < 1000) : ∀ {σ : Sig} {μ : Sto}, Itm C (.lst (ps.map (partAV st))) (i : Nat) σ μ (partAV st p) := fun {σ μ} => itm_list (LstAt.lst _) (nth_nat (by rw [List.getElem?_map, h]; rfl)) (by simp; lia)
theorem add_j {x : List Nat} {e : Expr} {p1 pos p2 : Pos} {rest : List Stmt} {σ : Sig} (hI : interactive C.env = false) (hx : (Str.ofString "add", AV.app r) ∈ σ) (he : EvL C [e] σ ((r, acc.map .str) :: μ) [.str x] ((r, acc.map .str) :: μ)) (hl : acc.length < 10000)
    (h : Ex C rest σ ((r, (acc ++ [x]).map .str) :: μ) K)
    (hp : ∀ pos env, (backTo pos (starEach [e] env)).any (·.1) = false := by intro _ _; rfl) (hs : ∀ env, swapsWith (.Call (.Name "add" p1) [e] [] pos) none p2.line env = pure false := by intro _; rfl) :
    Ex C (.Expr (.Call (.Name "add" p1) [e] [] pos) p2 :: rest) σ ((r, acc.map .str) :: μ) K := by
  have e1 : (acc ++ [x]).map AV.str = acc.map .str ++ [.str x] := by simp
  rw [e1] at h
  exact ex_expr (evs_add hx he (.head _) .head (by unfold sizeLine; simp; lia) hp) h hI hs
theorem tst_j {b : Bool} {p1 p2 p3 p4 p5 p6 p7 : Pos} {bp p8 : Pos} (hl : ps.length < 1000) (hb : b = match ps[i]? with | some (some _) => true | _ => false) :
    EvB C (.BoolOp .And [.Compare (.Name "i" p1) [.Lt] [.Name "n" p2] p3, .Compare (.Subscript (.Name "inp" p4) (.Name "i" p5) p6) [.IsNot] [.Name "STAR" p7] p8] bp) (sgJ (ps.map (partAV st)) st r i ps.length v) μ b := by
  have lt : ∀ {c : Bool}, decide (i < ps.length) = c → ∀ {σ μ}, Cmp C .Lt (.int (i : Nat)) (.int (ps.length : Nat)) σ μ c := fun {c} e {σ μ} => by
    have := cmp_ltN (C := C) (σ := σ) (μ := μ) (m := i) (n := ps.length); rwa [e] at this
  unfold sgJ
  cases h : ps[i]? with
  | none =>
    rw [h] at hb
    exact evt_bool (ala (x := false) (evt_cmp (by dictfold_shaped) (by dictfold_shaped) (lt (decide_eq_false (by have := List.getElem?_eq_none_iff.mp h; lia))) rfl) (fun _ => hb) fun q => nomatch q)
  | some p =>
    rw [h] at hb
    have hlt : i < ps.length := (List.getElem?_eq_some_iff.mp h).1
    cases p with
    | none => exact evt_bool (ala (x := true) (evt_cmp (by dictfold_shaped) (by dictfold_shaped) (lt (decide_eq_true hlt)) rfl) (fun q => nomatch q) fun _ => ala (x := false) (evt_cmp (evs_item (by dictfold_shaped) (by dictfold_shaped) (p_itm h hl)) (by dictfold_shaped) cmp_isnot_self rfl) (fun _ => hb) fun q => nomatch q)
    | some x => exact evt_bool (ala (x := true) (evt_cmp (by dictfold_shaped) (by dictfold_shaped) (lt (decide_eq_true hlt)) rfl) (fun q => nomatch q) fun _ => ala (x := true) (evt_cmp (evs_item (by dictfold_shaped) (by dictfold_shaped) (p_itm h hl)) (by dictfold_shaped) cmp_isnot_str rfl) (fun q => nomatch q) fun _ => ale hb)
noncomputable abbrev jW2 : List Stmt := forB 9 4
theorem join_first {f0 : List (List Nat)} {tl : List Part} {r1 : List Stmt} (hI : interactive C.env = false) (hps : ps = f0.map some ++ tl) (htl : ∀ x, tl.head? ≠ some (some x)) (hl : ps.length < 1000)
    (h : Ex C r1 (sgJ (ps.map (partAV st)) st r f0.length ps.length v) ((r, f0.map .str) :: μ) K) :
    Ex C ((fbody 9).getD 3 default :: r1) (sgJ (ps.map (partAV st)) st r (0 : Nat) ps.length v) ((r, []) :: μ) K := by
  refine ex_while (fun m σ μ₁ => ∃ a b, f0 = a ++ b ∧ m = b.length ∧ σ = sgJ (ps.map (partAV st)) st r a.length ps.length v ∧ μ₁ = (r, a.map .str) :: μ) (n := f0.length) ⟨[], f0, rfl, rfl, rfl, rfl⟩ ?_
  rintro m σ μ₁ ⟨a, b, hab, rfl, rfl, rfl⟩
  have hat : ps[a.length]? = (b.map some ++ tl).head? := by
    rw [hps, hab, List.map_append, List.append_assoc, List.getElem?_append_right (by simp), List.head?_eq_getElem?]; simp
  cases b with
  | nil =>
    have e : a = f0 := by rw [hab]; simp
    subst e
    have hat2 : ps[a.length]? = tl.head? := by rw [hat]; rfl
    refine ⟨false, tst_j hl (b := false) (by
      rw [hat2]
      cases ht : tl.head? with
      | none => rfl
      | some p => cases p with
        | none => rfl
        | some x => exact absurd ht (htl x)), (fun q => nomatch q), fun _ => ex_nil h⟩
  | cons x b =>
    have hat2 : ps[a.length]? = some (some x) := by rw [hat]; rfl
    have hal : a.length < 1000 := Nat.lt_trans (List.getElem?_eq_some_iff.mp hat2).1 hl
    refine ⟨true, tst_j hl (b := true) (by rw [hat2]), fun _ => ?_, fun q => nomatch q⟩
    unfold sgJ
    refine add_j hI (by dictfold_has) (evl_cons (evs_item (by dictfold_shaped) (by dictfold_shaped) (p_itm hat2 hl)) evl_nil) (by room) ?_
    refine ex_aug_int (j := 1) (by dictfold_has) (by dictfold_shaped) (by dictfold_puts) (ex_nil ?_)
    refine ⟨b.length, by simp, a ++ [x], b, by simp [hab], rfl, ?_, rfl⟩
    simp
theorem join_fixed {f0 : List (List Nat)} {dn tl : List Part} {l : Addr} {r1 : List Stmt} (hI : interactive C.env = false) (hps : ps = dn ++ f0.map some ++ tl) (htl : ∀ x, tl.head? ≠ some (some x)) (hl : ps.length < 1000)
    (h : Ex C r1 (sgJ (ps.map (partAV st)) st r (dn ++ f0.map some).length ps.length (.own l)) ((l, f0.map .str) :: μ) K) :
    Ex C (jW2.getD 5 default :: r1) (sgJ (ps.map (partAV st)) st r dn.length ps.length (.own l)) ((l, []) :: μ) K := by
  refine ex_while (fun m σ μ₁ => ∃ a b, f0 = a ++ b ∧ m = b.length ∧ σ = sgJ (ps.map (partAV st)) st r (dn ++ a.map some).length ps.length (.own l) ∧ μ₁ = (l, a.map .str) :: μ) (n := f0.length) ⟨[], f0, rfl, rfl, by simp, rfl⟩ ?_
  rintro m σ μ₁ ⟨a, b, hab, rfl, rfl, rfl⟩
  have hat : ps[(dn ++ a.map some).length]? = (b.map some ++ tl).head? := by
    rw [hps, hab, List.map_append, ← List.append_assoc, List.append_assoc, List.getElem?_append_right (Nat.le_refl _), List.head?_eq_getElem?]; simp
  cases b with
  | nil =>
    have e : a = f0 := by rw [hab]; simp
    subst e
    have hat2 : ps[(dn ++ a.map some).length]? = tl.head? := by rw [hat]; rfl
    refine ⟨false, tst_j hl (b := false) (by
      rw [hat2]
      cases ht : tl.head? with
      | none => rfl
      | some p => cases p with
        | none => rfl
        | some x => exact absurd ht (htl x)), (fun q => nomatch q), fun _ => ex_nil h⟩
  | cons x b =>
    have hat2 : ps[(dn ++ a.map some).length]? = some (some x) := by rw [hat]; rfl
    have hlt := (List.getElem?_eq_some_iff.mp hat2).1
    have hal : a.length < 1000 := by simp at hlt; lia
    refine ⟨true, tst_j hl (b := true) (by rw [hat2]), fun _ => ?_, fun q => nomatch q⟩
    unfold sgJ
    refine ex_expr (evs_meth (a := .own l) (as := [.str x]) (by dictfold_shaped) (isOf_list (LstAt.own (.head _))) m_append (evl_cons (evs_item (by dictfold_shaped) (by dictfold_shaped) (p_itm hat2 hl)) evl_nil) (ca_append (.head _) .head (by unfold sizeLine; simp; lia))) ?_ hI
    refine ex_aug_int (j := 1) (by dictfold_has) (by dictfold_shaped) (by dictfold_puts) (ex_nil ?_)
    refine ⟨b.length, by simp, a ++ [x], b, by simp [hab], rfl, ?_, by simp⟩
    simp [Int.add_assoc]
theorem jtail_head (rs : List (List (List Nat))) (x : List Nat) : (jtail rs).head? ≠ some (some x) := by
  cases rs <;> simp [jtail]
theorem jtail_nil {rs : List (List (List Nat))} : (jtail rs).length = 0 ↔ rs = [] := by
  cases rs <;> simp [jtail]
set_option maxHeartbeats 1000000 in
theorem join_turn {q : List (List Nat)} {dn : List Part} {rs : List (List (List Nat))} {r0 : Addr} (hI : interactive C.env = false) (hps : ps = dn ++ none :: (q.map some ++ jtail rs)) (hl : ps.length < 1000) (hq : q = [] → rs = []) (hql : q.flatten.length ≤ 1000) (hal : acc.length < 5000)
    (h0 : q = [] → K .brk (sgJ (ps.map (partAV st)) st r0 ps.length ps.length v) ((r0, (acc ++ [[46, 42]]).map .str) :: μ))
    (h1 : q ≠ [] → rs = [] → ∀ v, K .next (sgJ (ps.map (partAV st)) st r0 ps.length ps.length v) ((r0, (acc ++ [[46, 42]] ++ [q.flatten]).map .str) :: μ))
    (h2 : rs ≠ [] → ∀ v, K .next (sgJ (ps.map (partAV st)) st r0 (dn ++ none :: q.map some).length ps.length v) ((r0, (acc ++ [[40, 63, 62, 46, 42, 63] ++ q.flatten ++ [41]]).map .str) :: μ)) :
    Ex C jW2 (sgJ (ps.map (partAV st)) st r0 dn.length ps.length v) ((r0, acc.map .str) :: μ) K := by
  have a0 : ps[dn.length]? = some none := by rw [hps, List.getElem?_append_right (Nat.le_refl _)]; simp
  have hlen : ps.length = dn.length + 1 + q.length + (jtail rs).length := by rw [hps]; simp; lia
  have eqn : ∀ {i : Nat} {c : Bool}, decide (i = ps.length) = c → ∀ {σ μ}, Cmp C .Eq (.int (i : Nat)) (.int (ps.length : Nat)) σ μ c := fun {i c} e {σ μ} => by
    have := cmp_eqN (C := C) (σ := σ) (μ := μ) (m := i) (n := ps.length); rwa [e] at this
  unfold sgJ at h0 h1 h2 ⊢
  refine ex_assert (evt_cmp (evs_item (by dictfold_shaped) (by dictfold_shaped) (p_itm a0 hl)) (by dictfold_shaped) cmp_is_self rfl) ?_
  refine ex_aug_int (j := 1) (by dictfold_has) (by dictfold_shaped) (by dictfold_puts) ?_
  have ei : ((dn.length : Nat) : Int) + 1 = ((dn.length + 1 : Nat) : Int) := by room
  rw [ei]
  cases q with
  | nil =>
    have hr := hq rfl
    have e1 : dn.length + 1 = ps.length := by rw [hlen, hr]; simp [jtail]
    rw [e1]
    refine ex_if (b := true) (evt_cmp (by dictfold_shaped) (by dictfold_shaped) (eqn (by simp)) rfl) (fun _ => ?_) fun q => nomatch q
    exact add_j hI (by dictfold_has) (evl_cons (ev_str (y := [46, 42]) (by decide +kernel)) evl_nil) (by room) (ex_brk (h0 rfl))
  | cons x q' =>
    generalize hqq : x :: q' = q at *
    have hq0 : q ≠ [] := by rw [← hqq]; simp
    have hq1 : 0 < q.length := List.length_pos_iff.mpr hq0
    refine ex_if (b := false) (evt_cmp (by dictfold_shaped) (by dictfold_shaped) (eqn (decide_eq_false (by room))) rfl) (fun q => nomatch q) fun _ => ex_nil ?_
    have a1 : ps[dn.length + 1]? = some (some x) := by
      rw [hps, List.getElem?_append_right (by room), ← hqq]
      have : dn.length + 1 - dn.length = 1 := by room
      rw [this]; rfl
    refine ex_assert (evt_cmp (evs_item (by dictfold_shaped) (by dictfold_shaped) (p_itm a1 hl)) (by dictfold_shaped) cmp_isnot_str rfl) ?_
    refine ex_assignN (evn_list evl_nil) (fun l => (by dictfold_puts)) fun l => ?_
    have jf := join_fixed (C := C) (st := st) (r := r0) (l := l) (μ := (r0, acc.map .str) :: μ) (K := K) (f0 := q) (dn := dn ++ [none]) (tl := jtail rs) (ps := ps) (r1 := jW2.drop 6) hI (by rw [hps]; simp) (jtail_head rs) hl
    have e2 : (dn ++ [none]).length = dn.length + 1 := by simp
    have e3 : (dn ++ [none] ++ q.map some).length = dn.length + 1 + q.length := by simp; lia
    rw [e2, e3] at jf
    unfold sgJ at jf
    refine jf ?_
    refine ex_let (a := .str q.flatten) (evs_meth (a := .str []) (as := [.own l]) (ev_str (y := []) (by decide +kernel)) isOf_str m_join (by dictfold_shaped) (ca_join (LstAt.own (.head _)) (joinF_nil _) (by decide) (by rw [← List.length_flatten]; lia))) (by dictfold_puts) ?_
    refine ex_drop (List.sublist_cons_self _ _) ?_
    by_cases hr : rs = []
    · have e1 : dn.length + 1 + q.length = ps.length := by rw [hlen, hr]; simp [jtail]
      rw [e1]
      refine ex_if (b := true) (evt_cmp (by dictfold_shaped) (by dictfold_shaped) (eqn (by simp)) rfl) (fun _ => ?_) fun q => nomatch q
      refine add_j hI (by dictfold_has) (evl_cons (ev_str (y := [46, 42]) (by decide +kernel)) evl_nil) (by room) ?_
      exact add_j hI (by dictfold_has) (by dictfold_shaped) (by simp; lia) (ex_nil (ex_nil (h1 hq0 hr _)))
    · have hj0 : (jtail rs).length ≠ 0 := fun e => hr (jtail_nil.mp e)
      refine ex_if (b := false) (evt_cmp (by dictfold_shaped) (by dictfold_shaped) (eqn (decide_eq_false (by room))) rfl) (fun q => nomatch q) fun _ => ?_
      refine add_j hI (by dictfold_has) (evl_cons (ev_fstr (u := [40, 63, 62, 46, 42, 63]) (y := q.flatten) (v := [41]) (by decide +kernel) (by decide +kernel) (by dictfold_shaped) (by show 6 + q.flatten.length + 1 ≤ 1000000; lia)) evl_nil) (by room) (ex_nil (ex_nil ?_))
      have e4 : (dn ++ none :: q.map some).length = dn.length + 1 + q.length := by simp; lia
      rw [e4] at h2
      exact h2 hr _
theorem jst_le {q : List (List Nat)} {rs : List (List (List Nat))} : q.flatten.length ≤ (jst (q :: rs)).length := by
  unfold jst; split <;> simp <;> lia
noncomputable def jtxt (f0 : List (List Nat)) (rs : List (List (List Nat))) : List Nat := [40, 63, 115, 58] ++ (f0.flatten ++ jst rs) ++ [41, 92, 90]
inductive WJn (ps : List Part) (rs : List (List (List Nat))) (f0 : List (List Nat)) (st r : Addr) (μ : Sto) : Nat → Sig → Sto → Prop
  | mk (dn : List Part) (done rs' : List (List (List Nat))) (acc : List (List Nat)) (v : AV) (σ : Sig) (μ₁ : Sto) (hd : rs = done ++ rs') (hp : ps = dn ++ jtail rs') (hj : acc.flatten ++ jst rs' = f0.flatten ++ jst rs) (ha : acc.length ≤ 2 * dn.length)
      (e1 : σ = sgJ (ps.map (partAV st)) st r dn.length ps.length v) (e2 : μ₁ = (r, acc.map .str) :: μ) : WJn ps rs f0 st r μ rs'.length σ μ₁
set_option maxHeartbeats 1000000 in
theorem fn_join {d : Nat} {f0 : List (List Nat)} {rs : List (List (List Nat))} (hps : ps = f0.map some ++ jtail rs) (hl : ps.length < 1000) (hrs : ∀ a q b, rs = a ++ q :: b → q = [] → b = []) (ht : (f0.flatten ++ jst rs).length ≤ 1000) :
    Fn T (.ref 69) (d + 1) [.lst (ps.map (partAV st)), .val (.ref st)] μ (.str (jtxt f0 rs)) μ := by
  refine fn_intro (S := S_join) (σ₀ := [("inp", .lst (ps.map (partAV st))), ("STAR", .val (.ref st)), ("res", .un), ("add", .un), ("i", .un), ("n", .un), ("fixed", .un)]) (i := 9) (params := ["inp", "STAR"]) (by decide) (by decide +kernel) rfl (by simp) rfl fun nd C hC hI => ?_
  refine ex_assignN (evn_list evl_nil) (fun r => (by dictfold_puts)) fun r => ?_
  refine ex_let (a := .app r) (ev_app (by dictfold_has) (.head _)) (by dictfold_puts) ?_
  refine ex_asgS (a := .int ((0 : Nat) : Int)) (b := .int (ps.length : Nat)) (ev_tuple (evl_cons (by dictfold_shaped) (evl_cons (evs_call (as := [.lst (ps.map (partAV st))]) (by dictfold_shaped) (by dictfold_shaped) (by dictfold_shaped2) (ca_lenm (LstAt.lst _) (by room)) (fun _ _ => rfl)) evl_nil)) (show 2 ≤ sizeLine by decide)) (by dictfold_puts) (by dictfold_puts) ?_ (fun _ => rfl) (fun env h1 h2 h3 => sw_in h1 h2 h3 rfl) (by dictfold_has) (by dictfold_has)
  have jf := join_first (C := C) (ps := ps) (st := st) (r := r) (v := .un) (μ := μ) (K := KRet (.str (jtxt f0 rs)) μ) (f0 := f0) (tl := jtail rs) (r1 := (fbody 9).drop 4) hI hps (jtail_head rs) hl
  unfold sgJ at jf
  refine jf ?_
  have fin : ∀ {acc : List (List Nat)} {v : AV}, acc.flatten = f0.flatten ++ jst rs → acc.length ≤ 10000 → Ex C ((fbody 9).drop 5) (sgJ (ps.map (partAV st)) st r ps.length ps.length v) ((r, acc.map .str) :: μ) (KRet (.str (jtxt f0 rs)) μ) := fun {acc v} he hal => by
    unfold sgJ
    refine ex_assert (evt_cmp (by dictfold_shaped) (by dictfold_shaped) (by have := cmp_eqN (C := C) (σ := sgJ (ps.map (partAV st)) st r ps.length ps.length v) (μ := (r, acc.map .str) :: μ) (m := ps.length) (n := ps.length); rwa [decide_eq_true rfl] at this) rfl) ?_
    refine ex_let (a := .str (f0.flatten ++ jst rs)) (evs_meth (a := .str []) (as := [.own r]) (ev_str (y := []) (by decide +kernel)) isOf_str m_join (by dictfold_shaped) (ca_join (LstAt.own (.head _)) ((joinF_nil _).trans he) (by decide) (by rw [← List.length_flatten, he]; lia))) (by dictfold_puts) ?_
    refine ex_drop (List.sublist_cons_self _ _) ?_
    exact ex_ret (a := .str (jtxt f0 rs)) (ev_fstr (u := [40, 63, 115, 58]) (y := f0.flatten ++ jst rs) (v := [41, 92, 90]) (by decide +kernel) (by decide +kernel) (by dictfold_shaped) (by show 4 + (f0.flatten ++ jst rs).length + 3 ≤ 1000000; lia)) ⟨rfl, List.Sublist.refl _⟩
  refine ex_while (WJn ps rs f0 st r μ) (n := rs.length) ⟨f0.map some, [], rs, f0, .un, _, _, rfl, hps, rfl, by simp; lia, by unfold sgJ; simp, rfl⟩ ?_
  rintro m σ μ₁ ⟨dn, done, rs', acc, v, _, _, hd, hp, hj, ha, rfl, rfl⟩
  have hdl : dn.length ≤ ps.length := by rw [hp]; simp
  cases rs' with
  | nil =>
    have e : dn.length = ps.length := by rw [hp]; simp [jtail]
    rw [e]
    refine ⟨false, ?_, (fun q => nomatch q), fun _ => ex_nil (fin (by simpa [jst] using hj) (by room))⟩
    unfold sgJ
    exact evt_cmp (by dictfold_shaped) (by dictfold_shaped) (by have := cmp_ltN (C := C) (σ := sgJ (ps.map (partAV st)) st r ps.length ps.length v) (μ := (r, acc.map .str) :: μ) (m := ps.length) (n := ps.length); rwa [decide_eq_false (by room)] at this) rfl
  | cons q rs' =>
    have hp2 : ps = dn ++ none :: (q.map some ++ jtail rs') := by rw [hp]; simp [jtail]
    have hlt : dn.length < ps.length := by rw [hp2]; simp
    have hql : q.flatten.length ≤ 1000 := by
      have h1 := jst_le (q := q) (rs := rs')
      have h2 : (acc.flatten ++ jst (q :: rs')).length ≤ 1000 := by rw [hj]; exact ht
      rw [List.length_append] at h2
      lia
    refine ⟨true, ?_, fun _ => ?_, (fun q => nomatch q)⟩
    · unfold sgJ
      exact evt_cmp (by dictfold_shaped) (by dictfold_shaped) (by have := cmp_ltN (C := C) (σ := sgJ (ps.map (partAV st)) st r dn.length ps.length v) (μ := (r, acc.map .str) :: μ) (m := dn.length) (n := ps.length); rwa [decide_eq_true hlt] at this) rfl
    · refine join_turn hI hp2 hl (hrs _ _ _ hd) hql (by room) (fun hq => ?_) (fun hq hr v => ?_) fun hr v => ?_
      · have hr := hrs _ _ _ hd hq
        subst hq hr
        refine fin ?_ (by simp; lia)
        rw [← hj]; simp [jst]
      · subst hr
        refine ⟨0, by simp, dn ++ none :: q.map some, done ++ [q], [], acc ++ [[46, 42]] ++ [q.flatten], v, _, _, by rw [hd]; simp, by rw [hp2]; simp [jtail], ?_, by simp; lia, ?_, rfl⟩
        · rw [← hj]; simp [jst]
        · have e : (dn ++ none :: q.map some).length = ps.length := by rw [hp2]; simp [jtail]
          rw [e]
      · refine ⟨rs'.length, by simp, dn ++ none :: q.map some, done ++ [q], rs', acc ++ [[40, 63, 62, 46, 42, 63] ++ q.flatten ++ [41]], v, _, _, by rw [hd]; simp, by rw [hp2]; simp, ?_, by simp; lia, rfl, rfl⟩
        rw [← hj]; simp [jst, hr]
end
end
section
noncomputable abbrev S_t : FnS := { names := [("pat", false), ("STAR", false), ("parts", false)], globs := [("object", .type "object"), ("_translate", .ref 62), ("_join_translated_parts", .ref 69)] }
section
variable {T : TopCx} {μ : Sto}
theorem fn_translate {d : Nat} (hd : 2 ≤ d) {pat : List Nat} {ws : List (List Nat)} {f0 : List (List Nat)} {rs : List (List (List Nat))} (hws : ∀ w ∈ ws, pcOk w = true) (hn : ws.length < 500) (hpat : pat = ws.flatten) (hl : pat.length < 2 ^ 20)
    (hps : ws.foldl stepP [] = f0.map some ++ jtail rs) (hrs : ∀ a q b, rs = a ++ q :: b → q = [] → b = []) (ht : (f0.flatten ++ jst rs).length ≤ 1000) :
    Fn T (.ref 43) (d + 1) [.str pat] μ (.str (jtxt f0 rs)) μ := by
  refine fn_intro (S := S_t) (σ₀ := [("pat", .str pat), ("STAR", .un), ("parts", .un)]) (i := 3) (params := ["pat"]) (by decide) (by decide +kernel) rfl (by simp) rfl fun nd C hC hI => ?_
  refine ex_object (by dictfold_shaped) (fun st => (by dictfold_puts)) fun st => ?_
  have hlen : (ws.foldl stepP []).length ≤ 0 + ws.length := foldP_len ws []
  refine ex_let (a := .lst ((ws.foldl stepP []).map (partAV st))) (evs_call (as := [.str pat, .val (.ref st), .str [46]]) (by dictfold_shaped) (evl_cons (by dictfold_shaped) (evl_cons (by dictfold_shaped) (evl_cons (ev_str (y := [46]) (by decide +kernel)) evl_nil))) (by dictfold_shaped2) (ca_fn (fn_translate_ (d := C.d - 1) (by room) hws (by room) hpat hl) (by room)) (fun _ _ => rfl)) (by dictfold_puts) ?_
  exact ex_ret (a := .str (jtxt f0 rs)) (evs_call (as := [.lst ((ws.foldl stepP []).map (partAV st)), .val (.ref st)]) (by dictfold_shaped) (evl_cons (by dictfold_shaped) (evl_cons (by dictfold_shaped) evl_nil)) (by dictfold_shaped2) (ca_fn (fn_join (ps := ws.foldl stepP []) (d := C.d - 1) hps (by room) hrs ht) (by room)) (fun _ _ => rfl)) ⟨rfl, List.Sublist.refl _⟩
end
end
section
noncomputable abbrev Wd := List Nat
noncomputable abbrev Shp := List Wd × List (List Wd)
noncomputable def sStar : Shp → Shp
  | ([], q :: r) => ([], q :: r)
  | (a, r) => ([], a :: r)
noncomputable def shp : List Wd → Shp
  | [] => ([], [])
  | w :: ws => if w = [42] then sStar (shp ws) else (w :: (shp ws).1, (shp ws).2)
section
variable {β : Type}
noncomputable def ren (f : Wd → β) (s : Shp) : List (Option β) := s.1.map (fun w => some (f w)) ++ (s.2.map fun q => none :: q.map fun w => some (f w)).flatten
noncomputable def renS (f : Wd → β) : Shp → List (Option β)
  | ([], q :: r) => q.map (fun w => some (f w)) ++ (r.map fun q => none :: q.map fun w => some (f w)).flatten
  | (a, r) => ren f (a, r)
theorem ren_star (f : Wd → β) (s : Shp) : ren f (sStar s) = none :: renS f s := by
  obtain ⟨a, r⟩ := s
  cases a with
  | nil => cases r <;> simp [ren, renS, sStar]
  | cons w a => simp [ren, renS, sStar]
theorem renS_star (f : Wd → β) (s : Shp) : renS f (sStar s) = renS f s := by
  obtain ⟨a, r⟩ := s
  cases a with
  | nil => cases r <;> simp [ren, renS, sStar]
  | cons w a => simp [ren, renS, sStar]
end
theorem fold_shp : ∀ (ws : List Wd) (acc : List Part), (acc.getLast? ≠ some none → ws.foldl stepP acc = acc ++ ren ptx (shp ws)) ∧ (acc.getLast? = some none → ws.foldl stepP acc = acc ++ renS ptx (shp ws))
  | [], acc => ⟨fun _ => by simp [shp, ren], fun _ => by simp [shp, renS, ren]⟩
  | w :: ws, acc => by
    by_cases h : w = [42]
    · have e : shp (w :: ws) = sStar (shp ws) := by simp [shp, h]
      rw [e, List.foldl_cons]
      have e2 : stepP acc w = starP acc := by simp [stepP, h]
      rw [e2, ren_star, renS_star]
      refine ⟨fun hl => ?_, fun hl => ?_⟩
      · have e3 : starP acc = acc ++ [none] := by
          unfold starP
          split
          · rename_i h; exact absurd h hl
          · rfl
        rw [e3, (fold_shp ws (acc ++ [none])).2 (by simp)]
        simp
      · have e3 : starP acc = acc := by simp [starP, hl]
        rw [e3]
        exact (fold_shp ws acc).2 hl
    · have e : shp (w :: ws) = (w :: (shp ws).1, (shp ws).2) := by simp [shp, h]
      rw [e, List.foldl_cons]
      have e2 : stepP acc w = acc ++ [some (ptx w)] := by simp [stepP, h]
      rw [e2, (fold_shp ws (acc ++ [some (ptx w)])).1 (by simp)]
      simp [ren, renS]
noncomputable def Full : List (List Wd) → Prop
  | [] => True
  | [_] => True
  | q :: r => q ≠ [] ∧ Full r
theorem Full.tail {q : List Wd} {r : List (List Wd)} (h : Full (q :: r)) : Full r := by
  cases r with
  | nil => trivial
  | cons _ _ => exact h.2
theorem shp_full : ∀ ws : List Wd, Full (shp ws).2
  | [] => trivial
  | w :: ws => by
    have ih := shp_full ws
    by_cases h : w = [42]
    · have e : shp (w :: ws) = sStar (shp ws) := by simp [shp, h]
      rw [e]
      generalize shp ws = s at ih
      obtain ⟨a, r⟩ := s
      cases a with
      | nil => cases r with
        | nil => trivial
        | cons q r => exact ih
      | cons w a => cases r with
        | nil => trivial
        | cons q r => exact ⟨by simp, ih⟩
    · have e : shp (w :: ws) = (w :: (shp ws).1, (shp ws).2) := by simp [shp, h]
      rw [e]
      exact ih
theorem Full.at : ∀ {rs : List (List Wd)}, Full rs → ∀ a q b, rs = a ++ q :: b → q = [] → b = []
  | rs, h, [], q, b, e, hq => by
    subst e
    cases b with
    | nil => rfl
    | cons _ _ => exact absurd hq h.1
  | rs, h, x :: a, q, b, e, hq => by
    subst e
    exact Full.at (rs := a ++ q :: b) h.tail a q b rfl hq
theorem shp_mem {P : Wd → Prop} : ∀ ws : List Wd, (∀ w ∈ ws, w ≠ [42] → P w) → (∀ w ∈ (shp ws).1, P w) ∧ ∀ q ∈ (shp ws).2, ∀ w ∈ q, P w
  | [], _ => ⟨by simp [shp], by simp [shp]⟩
  | w :: ws, h => by
    have ih := shp_mem ws fun w hw => h w (.tail _ hw)
    by_cases e : w = [42]
    · have e1 : shp (w :: ws) = sStar (shp ws) := by simp [shp, e]
      rw [e1]
      generalize shp ws = s at ih
      obtain ⟨a, r⟩ := s
      cases a with
      | nil => cases r with
        | nil => exact ⟨by simp [sStar], by simp [sStar]⟩
        | cons q r => exact ih
      | cons w a => exact ⟨by simp [sStar], fun q hq => by
          rcases List.mem_cons.mp hq with rfl | hq
          · exact ih.1
          · exact ih.2 q hq⟩
    · have e1 : shp (w :: ws) = (w :: (shp ws).1, (shp ws).2) := by simp [shp, e]
      rw [e1]
      refine ⟨fun x hx => ?_, ih.2⟩
      rcases List.mem_cons.mp hx with rfl | hx
      · exact h _ (.head _) e
      · exact ih.1 x hx
theorem shp_len : ∀ ws : List Wd, (shp ws).1.length + ((shp ws).2.map fun q => q.length + 1).sum ≤ ws.length
  | [] => by simp [shp]
  | w :: ws => by
    have ih := shp_len ws
    by_cases e : w = [42]
    · have e1 : shp (w :: ws) = sStar (shp ws) := by simp [shp, e]
      rw [e1]
      generalize shp ws = s at ih
      obtain ⟨a, r⟩ := s
      cases a with
      | nil => cases r with
        | nil => simp [sStar]
        | cons q r => simp [sStar] at ih ⊢; lia
      | cons w a => simp [sStar] at ih ⊢; lia
    · have e1 : shp (w :: ws) = (w :: (shp ws).1, (shp ws).2) := by simp [shp, e]
      rw [e1]
      simp at ih ⊢; lia
theorem parts_shp (ws : List Wd) : ws.foldl stepP [] = ((shp ws).1.map ptx).map some ++ jtail ((shp ws).2.map fun q => q.map ptx) := by
  rw [(fold_shp ws []).1 (by simp)]
  simp [ren, jtail, Function.comp_def]
noncomputable def prx (w : Wd) : Rx := match w with
  | [63] => (true, [])
  | [c] => (false, [(c, c)])
  | _ => (([([97, 94], (false, [(97, 97), (94, 94)])), ([94, 97], (false, [(94, 94), (97, 97)])), ([33, 97], (true, [(97, 97)])), ([33, 94], (true, [(94, 94)])), ([33, 33], (true, [(33, 33)])), ([92], (false, [(92, 92)])), ([33, 45, 97], (true, [(45, 45), (97, 97)])),
      ([92, 45, 97], (false, [(92, 97)])), ([97, 45, 33], (false, [])), ([33, 97, 45, 33], (true, []))] : List (Wd × Rx)).lookup (w.drop 1).dropLast).getD (false, [])
noncomputable def itw (w : Wd) : Item := (pcs.lookup w).getD none
theorem itw_pcs : ∀ p ∈ pcs, p.2 = itw p.1 ∧ (p.1 = [42] → p.2 = none) := by decide +kernel
noncomputable def Wrd (w : Wd) : Prop := w ∈ (pcs.map (·.1)).filter (· ≠ [42])
theorem wrd_of {p : List Nat × Item} (hp : p ∈ pcs) (h : p.1 ≠ [42]) : Wrd p.1 := by
  unfold Wrd; rw [List.mem_filter]; exact ⟨List.mem_map_of_mem hp, by simpa using h⟩
theorem row_word {h l : Bool} {w rest : List Nat} {row : List (Option Rx)} (hw : Wrd w) (hr : rest.head? ≠ some 42) (k : RowT h l rest row) : RowT h l (ptx w ++ rest) (some (prx w) :: row) ∧ (ptx w ++ rest).head? ≠ some 42 := by
  have hw' : w ∈ ([[63], [97], [97], [94], [33], [92], [91, 97, 94, 93], [91, 94, 97, 93], [91, 33, 97, 93], [91, 33, 94, 93], [91, 33, 33, 93], [91, 92, 93], [91, 33, 45, 97, 93], [91, 92, 45, 97, 93], [91, 97, 45, 33, 93], [91, 33, 97, 45, 33, 93]] : List Wd) := hw
  simp only [List.mem_cons, List.not_mem_nil, or_false] at hw'
  rcases hw' with rfl | rfl | rfl | rfl | rfl | rfl | rfl | rfl | rfl | rfl | rfl | rfl | rfl | rfl | rfl | rfl
  · exact ⟨.any hr k, by simp [ptx]⟩
  · exact ⟨.sgn (by decide) (by decide) (by decide) (by decide) (.plain (by decide)) k, by simp [ptx, esc]⟩
  · exact ⟨.sgn (by decide) (by decide) (by decide) (by decide) (.plain (by decide)) k, by simp [ptx, esc]⟩
  · exact ⟨.sgn (b := 92) (by decide) (by decide) (by decide) (by decide) .esc k, by simp [ptx, esc]⟩
  · exact ⟨.sgn (by decide) (by decide) (by decide) (by decide) (.plain (by decide)) k, by simp [ptx, esc]⟩
  · exact ⟨.sgn (b := 92) (by decide) (by decide) (by decide) (by decide) .esc k, by simp [ptx, esc]⟩
  · exact ⟨.set (t := false) (w := 97 :: 94 :: 93 :: rest) (by simp) (.one (by decide) (.plain (by decide)) (by decide) (.one (by decide) (.plain (by decide)) (by decide) .nil)) (by decide) k, by show (some 91 : Option Nat) ≠ some 42; decide⟩
  · exact ⟨.set (t := false) (w := 92 :: 94 :: 97 :: 93 :: rest) (by simp) (.one (by decide) .esc (by decide) (.one (by decide) (.plain (by decide)) (by decide) .nil)) (by decide) k, by show (some 91 : Option Nat) ≠ some 42; decide⟩
  · exact ⟨.set (t := true) (w := 97 :: 93 :: rest) (by simp) (.one (by decide) (.plain (by decide)) (by decide) .nil) (by decide) k, by show (some 91 : Option Nat) ≠ some 42; decide⟩
  · exact ⟨.set (t := true) (w := 94 :: 93 :: rest) (by simp) (.one (by decide) (.plain (by decide)) (by decide) .nil) (by decide) k, by show (some 91 : Option Nat) ≠ some 42; decide⟩
  · exact ⟨.set (t := true) (w := 33 :: 93 :: rest) (by simp) (.one (by decide) (.plain (by decide)) (by decide) .nil) (by decide) k, by show (some 91 : Option Nat) ≠ some 42; decide⟩
  · exact ⟨.set (t := false) (w := 92 :: 92 :: 93 :: rest) (by simp) (.one (by decide) .esc (by decide) .nil) (by decide) k, by show (some 91 : Option Nat) ≠ some 42; decide⟩
  · exact ⟨.set (t := true) (w := 92 :: 45 :: 97 :: 93 :: rest) (by simp) (.one (by decide) .esc (by decide) (.one (by decide) (.plain (by decide)) (by decide) .nil)) (by decide) k, by show (some 91 : Option Nat) ≠ some 42; decide⟩
  · exact ⟨.set (t := false) (w := 92 :: 92 :: 45 :: 97 :: 93 :: rest) (by simp) (.rng (by decide) .esc (.plain (by decide)) .nil) (by decide) k, by show (some 91 : Option Nat) ≠ some 42; decide⟩
  · exact ⟨.nev k, by show (some 40 : Option Nat) ≠ some 42; decide⟩
  · exact ⟨.any hr k, by show (some 46 : Option Nat) ≠ some 42; decide⟩
end
section
noncomputable def tl3 : List Nat := [41, 92, 90]
theorem row_words {h l : Bool} {rest : List Nat} {row : List (Option Rx)} (hr : rest.head? ≠ some 42) (k : RowT h l rest row) : ∀ q : List Wd, (∀ w ∈ q, Wrd w) → RowT h l ((q.map ptx).flatten ++ rest) (q.map (fun w => some (prx w)) ++ row) ∧ ((q.map ptx).flatten ++ rest).head? ≠ some 42
  | [], _ => ⟨k, hr⟩
  | w :: q, hq => by
    obtain ⟨h1, h2⟩ := row_words hr k q fun w hw => hq w (.tail _ hw)
    obtain ⟨h3, h4⟩ := row_word (hq w (.head _)) h2 h1
    simp only [List.map_cons, List.flatten_cons, List.append_assoc, List.cons_append]
    exact ⟨h3, h4⟩
theorem jst_head {q : List (List Nat)} {rs : List (List (List Nat))} {rest : List Nat} : (jst (q :: rs) ++ rest).take 3 = [40, 63, 62] ∨ (jst (q :: rs) ++ rest).take 2 = [46, 42] := by
  unfold jst
  split
  · exact .inr (by simp)
  · exact .inl (by simp)
theorem row_tail : ∀ rs : List (List Wd), (∀ q ∈ rs, ∀ w ∈ q, Wrd w) → RowT false false (jst (rs.map fun q => q.map ptx) ++ tl3) ((rs.map fun q => none :: q.map fun w => some (prx w)).flatten) ∧ (jst (rs.map fun q => q.map ptx) ++ tl3).head? ≠ some 42
  | [], _ => ⟨.fin, by decide⟩
  | [q], h => by
    obtain ⟨h1, h2⟩ := row_words (h := false) (l := true) (rest := tl3) (by decide) .fin q (h q (.head _))
    refine ⟨?_, ?_⟩
    · have := RowT.lst h1
      simp only [List.map_cons, List.map_nil, jst, if_true, List.flatten_cons, List.flatten_nil, List.append_nil, List.append_assoc, List.cons_append, List.nil_append] at this ⊢
      exact this
    · simp [jst]
  | q :: p :: rs, h => by
    obtain ⟨h1, h2⟩ := row_tail (p :: rs) fun q hq => h q (.tail _ hq)
    have hc := RowT.cls (w := jst ((p :: rs).map fun q => q.map ptx) ++ tl3) (by simp only [List.map_cons]; exact jst_head) h1
    obtain ⟨h3, h4⟩ := row_words (h := true) (l := false) (by simp) hc q (h q (.head _))
    refine ⟨?_, ?_⟩
    · have := RowT.opn h3
      rw [List.map_cons, jst, if_neg (by simp)]
      simp only [List.map_cons, List.flatten_cons, List.append_assoc, List.cons_append, List.nil_append] at this ⊢
      exact this
    · rw [List.map_cons, jst, if_neg (by simp)]; simp
theorem row_text {s : Shp} (h1 : ∀ w ∈ s.1, Wrd w) (h2 : ∀ q ∈ s.2, ∀ w ∈ q, Wrd w) : RowT false false ((s.1.map ptx).flatten ++ (jst (s.2.map fun q => q.map ptx) ++ tl3)) (ren prx s) := by
  obtain ⟨a, b⟩ := row_tail s.2 h2
  exact (row_words b a s.1 h1).1
theorem splitR_word (row : List (Option Rx)) : ∀ (q cur : List Rx), splitR cur (q.map some ++ row) = splitR (cur ++ q) row
  | [], cur => by simp
  | x :: q, cur => by
    have := splitR_word row q (cur ++ [x])
    simpa [splitR] using this
theorem splitR_ren (s : Shp) : splitR [] (ren prx s) = s.1.map prx :: s.2.map fun q => q.map prx := by
  obtain ⟨a, r⟩ := s
  have main : ∀ (r : List (List Wd)) (cur : List Rx), splitR cur ((r.map fun q => none :: q.map fun w => some (prx w)).flatten) = cur :: r.map fun q => q.map prx := by
    intro r
    induction r with
    | nil => intro cur; rfl
    | cons q r ih =>
      intro cur
      simp only [List.map_cons, List.flatten_cons, List.cons_append, splitR]
      have e : (q.map fun w => some (prx w)) = (q.map prx).map some := by simp [Function.comp_def]
      rw [e, splitR_word, ih]
      simp
  unfold ren
  have e : (a.map fun w => some (prx w)) = (a.map prx).map some := by simp [Function.comp_def]
  rw [e, splitR_word, main]
  simp
noncomputable def runsOf (s : Shp) : Runs := match s.2 with
  | [] => .one (s.1.map prx)
  | q :: r => .many (s.1.map prx) ((q :: r).dropLast.map fun q => q.map prx) (((q :: r).getLast (by simp)).map prx)
theorem runsOf_list (s : Shp) : (runsOf s).list = s.1.map prx :: s.2.map fun q => q.map prx := by
  obtain ⟨a, r⟩ := s
  cases r with
  | nil => rfl
  | cons q r =>
    simp only [runsOf, Runs.list]
    congr 1
    conv => rhs; rw [← List.dropLast_concat_getLast (l := q :: r) (by simp)]
    simp
theorem wrd_small : ∀ w, Wrd w → (prx w).2.length < 1000 ∧ (ptx w).length ≤ 10 ∧ w.length ≤ 6 ∧ pcOk w = true := by
  intro w hw
  have : ((pcs.map (·.1)).filter (· ≠ [42])).all (fun w => decide ((prx w).2.length < 1000 ∧ (ptx w).length ≤ 10 ∧ w.length ≤ 6 ∧ pcOk w = true)) = true := by decide +kernel
  exact of_decide_eq_true (List.all_eq_true.mp this w hw)
theorem flat_le : ∀ q : List Wd, (∀ w ∈ q, Wrd w) → (q.map ptx).flatten.length ≤ 10 * q.length
  | [], _ => by simp
  | w :: q, h => by
    have h1 := flat_le q fun w hw => h w (.tail _ hw)
    have h2 := (wrd_small w (h w (.head _))).2.1
    simp only [List.map_cons, List.flatten_cons, List.length_append, List.length_cons]; lia
theorem jst_len : ∀ rs : List (List Wd), (∀ q ∈ rs, ∀ w ∈ q, Wrd w) → (jst (rs.map fun q => q.map ptx)).length ≤ 10 * (rs.map fun q => q.length + 1).sum
  | [], _ => by simp [jst]
  | q :: rs, h => by
    have h1 := jst_len rs fun q hq => h q (.tail _ hq)
    have h2 := flat_le q (h q (.head _))
    rw [List.map_cons, jst]
    split
    · simp only [List.length_append, List.map_cons, List.sum_cons, List.length_cons, List.length_nil]; lia
    · simp only [List.length_append, List.map_cons, List.sum_cons, List.length_cons, List.length_nil]; lia
theorem txt_len {ws : List Wd} (h : ∀ w ∈ ws, w ≠ [42] → Wrd w) : (((shp ws).1.map ptx).flatten ++ jst ((shp ws).2.map fun q => q.map ptx)).length ≤ 10 * ws.length := by
  obtain ⟨h1, h2⟩ := shp_mem ws h
  have a := flat_le _ h1
  have b := jst_len _ h2
  have c := shp_len ws
  rw [List.length_append]
  have : 10 * ((shp ws).1.length + ((shp ws).2.map fun q => q.length + 1).sum) ≤ 10 * ws.length := Nat.mul_le_mul_left _ c
  lia
theorem runs_sm {ws : List Wd} (h : ∀ w ∈ ws, w ≠ [42] → Wrd w) (hl : ws.length < 500) : (∀ g ∈ (runsOf (shp ws)).list, Sm g) ∧ (runsOf (shp ws)).list.length < 1000 := by
  obtain ⟨h1, h2⟩ := shp_mem ws h
  have c := shp_len ws
  have one : ∀ q : List Wd, q.length < 1000 → (∀ w ∈ q, Wrd w) → Sm (q.map prx) := fun q hq hw => ⟨by simpa using hq, fun r hr => by
    obtain ⟨w, hw2, rfl⟩ := List.mem_map.mp hr
    exact (wrd_small w (hw w hw2)).1⟩
  have le : ∀ {rs : List (List Wd)} {q : List Wd}, q ∈ rs → q.length + 1 ≤ (rs.map fun q => q.length + 1).sum := fun {rs q} hq => by
    induction rs with
    | nil => cases hq
    | cons p rs ih =>
      simp only [List.map_cons, List.sum_cons]
      rcases List.mem_cons.mp hq with rfl | hq
      · lia
      · have := ih hq; lia
  have len : ∀ rs : List (List Wd), rs.length ≤ (rs.map fun q => q.length + 1).sum := fun rs => by
    induction rs with
    | nil => simp
    | cons q rs ih => simp at ih ⊢; lia
  rw [runsOf_list]
  refine ⟨fun g hg => ?_, ?_⟩
  · rcases List.mem_cons.mp hg with rfl | hg
    · exact one _ (by room) h1
    · obtain ⟨q, hq, rfl⟩ := List.mem_map.mp hg
      have := le hq
      exact one q (by room) (h2 q hq)
  · have := len (shp ws).2
    simp; lia
theorem wrd_fits : ∀ w, Wrd w → ∃ it, itw w = some it ∧ ∀ c, c = 97 ∨ c = 94 ∨ c = 33 ∨ c = 92 → fitsR (prx w) c = means it c := by
  intro w hw
  have : ((pcs.map (·.1)).filter (· ≠ [42])).all (fun w => match itw w with
    | none => false
    | some it => [97, 94, 33, 92].all fun c => fitsR (prx w) c == means it c) = true := by decide +kernel
  have h2 := List.all_eq_true.mp this w hw
  cases h : itw w with
  | none => rw [h] at h2; cases h2
  | some it =>
    rw [h] at h2
    refine ⟨it, rfl, fun c hc => ?_⟩
    have := List.all_eq_true.mp h2 c (by simp; lia)
    simpa using this
end
section
noncomputable def Ab (name : List Nat) : Prop := ∀ c ∈ name, c = 97 ∨ c = 94 ∨ c = 33 ∨ c = 92
theorem Ab.drop {name : List Nat} (h : Ab name) (k : Nat) : Ab (name.drop k) := fun c hc => h c (List.mem_of_mem_drop hc)
theorem takes_star {X : List Item} : ∀ {name : List Nat}, takes (none :: X) name = true ↔ ∃ k, k ≤ name.length ∧ takes X (name.drop k) = true
  | [] => by
    simp only [takes]
    exact ⟨fun h => ⟨0, Nat.le_refl _, h⟩, fun ⟨k, hk, h⟩ => by simpa using h⟩
  | c :: name => by
    simp only [takes, Bool.or_eq_true]
    constructor
    · rintro (h | h)
      · exact ⟨0, Nat.zero_le _, h⟩
      · obtain ⟨k, hk, h⟩ := takes_star.mp h
        exact ⟨k + 1, by simp; lia, h⟩
    · rintro ⟨k, hk, h⟩
      cases k with
      | zero => exact .inl h
      | succ k => exact .inr (takes_star.mpr ⟨k, by simp at hk; lia, h⟩)
theorem takes_dup {X : List Item} (name : List Nat) : takes (none :: none :: X) name = takes (none :: X) name := by
  rw [Bool.eq_iff_iff]
  constructor
  · intro h
    obtain ⟨k, hk, h⟩ := takes_star.mp h
    obtain ⟨j, hj, h⟩ := takes_star.mp h
    rw [List.drop_drop] at h
    exact takes_star.mpr ⟨k + j, by simp at hj; lia, h⟩
  · intro h
    exact takes_star.mpr ⟨0, Nat.zero_le _, h⟩
theorem takes_later {X : List Item} {name : List Nat} {j j' : Nat} (hj : j ≤ j') (hl : j' ≤ name.length) (h : takes (none :: X) (name.drop j') = true) : takes (none :: X) (name.drop j) = true := by
  obtain ⟨k, hk, h⟩ := takes_star.mp h
  rw [List.drop_drop] at h
  rw [List.length_drop] at hk
  have e : j + (j' - j + k) = j' + k := by rw [← Nat.add_assoc, Nat.add_sub_cancel' hj]
  refine takes_star.mpr ⟨j' - j + k, by rw [List.length_drop]; exact Nat.le_sub_of_add_le (by rw [Nat.add_comm, e]; exact Nat.add_le_of_le_sub' hl hk), ?_⟩
  rw [List.drop_drop, e]; exact h
noncomputable def Mt : List Rx → List Nat → Bool
  | [], _ => true
  | _ :: _, [] => false
  | r :: q, c :: n => fitsR r c && Mt q n
theorem Mt_len : ∀ {q : List Rx} {n : List Nat}, Mt q n = true → q.length ≤ n.length
  | [], _, _ => Nat.zero_le _
  | _ :: _, [], h => nomatch h
  | r :: q, c :: n, h => by
    unfold Mt at h
    have := Mt_len (Bool.and_eq_true_iff.mp h).2
    simp; lia
theorem Mt_iff : ∀ {q : List Rx} {n : List Nat}, Mt q n = true ↔ q.length ≤ n.length ∧ ∀ m, m < q.length → fitAt q n 0 m = true
  | [], n => by simp [Mt]
  | r :: q, [] => by simp [Mt]
  | r :: q, c :: n => by
    unfold Mt
    rw [Bool.and_eq_true, Mt_iff]
    constructor
    · rintro ⟨h1, h2, h3⟩
      refine ⟨by simp; lia, fun m hm => ?_⟩
      cases m with
      | zero => simpa [fitAt] using h1
      | succ m =>
        have := h3 m (by simp at hm; lia)
        simpa [fitAt] using this
    · rintro ⟨h2, h3⟩
      refine ⟨?_, by simp at h2; lia, fun m hm => ?_⟩
      · have := h3 0 (by simp)
        simpa [fitAt] using this
      · have := h3 (m + 1) (by simp; lia)
        simpa [fitAt] using this
theorem atR_Mt {run : List Rx} {name : List Nat} {k : Nat} (hk : k ≤ name.length) : atR run name k = Mt run (name.drop k) := by
  rw [Bool.eq_iff_iff, Mt_iff]
  unfold atR
  rw [Bool.and_eq_true, decide_eq_true_eq, List.all_eq_true]
  have e : ∀ m, fitAt run (name.drop k) 0 m = fitAt run name k m := fun m => by unfold fitAt; rw [List.getElem?_drop]; simp
  constructor
  · rintro ⟨h1, h2⟩
    exact ⟨by simp; lia, fun m hm => by rw [e]; exact h2 m (List.mem_range.mpr hm)⟩
  · rintro ⟨h1, h2⟩
    exact ⟨by simp at h1; lia, fun m hm => by rw [← e]; exact h2 m (List.mem_range.mp hm)⟩
noncomputable def itf (w : Wd) : Bool × List Nat := (itw w).getD (false, [])
theorem takes_words {X : List Item} : ∀ {q : List Wd} {name : List Nat}, (∀ w ∈ q, Wrd w) → Ab name → takes (q.map (fun w => some (itf w)) ++ X) name = (Mt (q.map prx) name && takes X (name.drop q.length))
  | [], name, _, _ => by simp [Mt]
  | w :: q, [], _, _ => by simp [Mt, takes]
  | w :: q, c :: name, hq, hn => by
    have ih := takes_words (X := X) (q := q) (name := name) (fun w hw => hq w (.tail _ hw)) (fun c hc => hn c (.tail _ hc))
    obtain ⟨it, h1, h2⟩ := wrd_fits w (hq w (.head _))
    have h3 : itf w = it := by simp [itf, h1]
    simp only [List.map_cons, List.cons_append, takes, Mt, h3, ih, List.length_cons, List.drop_succ_cons]
    rw [h2 c (hn c (.head _)), Bool.and_assoc]
noncomputable def stars (rs : List (List Wd)) : List Item := (rs.map fun q => none :: q.map fun w => some (itf w)).flatten
theorem stars_cons (q : List Wd) (rs : List (List Wd)) : stars (q :: rs) = none :: (q.map (fun w => some (itf w)) ++ stars rs) := by simp [stars]
theorem takes_end {q : List Wd} {name : List Nat} (hq : ∀ w ∈ q, Wrd w) (hn : Ab name) : takes (q.map fun w => some (itf w)) name = (Mt (q.map prx) name && decide (name.length = q.length)) := by
  have := takes_words (X := []) hq hn
  rw [List.append_nil] at this
  rw [this]
  cases h : Mt (q.map prx) name with
  | false => simp
  | true =>
    have hl := Mt_len h
    simp only [Bool.true_and, takes]
    rw [Bool.eq_iff_iff, decide_eq_true_eq, List.isEmpty_iff]
    simp at hl ⊢
    lia
theorem mid_takes {gl : List Wd} (hg : ∀ w ∈ gl, Wrd w) {name : List Nat} (hn : Ab name) (mids : List (List Wd)) : ∀ b : Nat, (∀ q ∈ mids, ∀ w ∈ q, Wrd w) → b ≤ name.length →
    midR name (gl.map prx) (mids.map fun q => q.map prx) b = takes (stars (mids ++ [gl])) (name.drop b) := by
  induction mids with
  | nil =>
    intro b _ hb
    rw [List.nil_append, stars_cons]
    have e0 : stars [] = [] := rfl
    rw [e0, List.append_nil, Bool.eq_iff_iff, takes_star]
    simp only [List.map_nil, midR, Bool.and_eq_true, decide_eq_true_eq, List.length_map]
    constructor
    · rintro ⟨h1, h2⟩
      refine ⟨name.length - gl.length - b, by rw [List.length_drop]; exact Nat.sub_le_sub_right (Nat.sub_le _ _) _, ?_⟩
      rw [List.drop_drop, takes_end hg (hn.drop _), Nat.add_sub_cancel' (Nat.le_sub_of_add_le h1), ← atR_Mt (Nat.sub_le _ _), h2, Bool.true_and, decide_eq_true_eq, List.length_drop]
      exact Nat.sub_sub_self (Nat.le_trans (Nat.le_add_left _ _) h1)
    · rintro ⟨k, hk, h⟩
      rw [List.drop_drop, takes_end hg (hn.drop _)] at h
      obtain ⟨h1, h2⟩ := Bool.and_eq_true_iff.mp h
      have h2 := of_decide_eq_true h2
      rw [List.length_drop] at h2 hk
      have hk' := Nat.add_le_of_le_sub' hb hk
      have hN := (Nat.sub_eq_iff_eq_add' hk').mp h2
      have e : name.length - gl.length = b + k := by rw [hN]; exact Nat.add_sub_cancel _ _
      refine ⟨by rw [hN]; exact Nat.add_le_add_right (Nat.le_add_right b k) _, ?_⟩
      rw [e, atR_Mt hk']; exact h1
  | cons q mids ih0 =>
    intro b hm hb
    have ih := fun b => ih0 b fun q hq => hm q (.tail _ hq)
    have hq := hm q (.head _)
    obtain ⟨S, hS⟩ : ∃ S, stars (mids ++ [gl]) = none :: S := by cases mids with
      | nil => exact ⟨_, stars_cons _ _⟩
      | cons p m => exact ⟨_, stars_cons _ _⟩
    have key : ∀ k, b + k ≤ name.length → (takes (q.map (fun w => some (itf w)) ++ stars (mids ++ [gl])) ((name.drop b).drop k) = true ↔ atR (q.map prx) name (b + k) = true ∧ midR name (gl.map prx) (mids.map fun q => q.map prx) (b + k + q.length) = true) := fun k hk => by
      rw [List.drop_drop, takes_words hq (hn.drop _), Bool.and_eq_true, atR_Mt hk, List.drop_drop]
      refine and_congr_right fun h1 => ?_
      have hl := Mt_len h1
      rw [List.length_map, List.length_drop] at hl
      rw [ih _ (Nat.add_le_of_le_sub' hk hl)]
    rw [List.cons_append, stars_cons, Bool.eq_iff_iff, takes_star]
    simp only [List.map_cons, midR, List.length_drop]
    have hh : (plc (q.map prx) name b).head? = (List.range' b (name.length + 1 - b)).find? fun k => atR (q.map prx) name k := List.head?_filter
    cases hp : plc (q.map prx) name b with
    | nil =>
      rw [hp] at hh
      simp only [Bool.false_eq_true, false_iff]
      rintro ⟨k, hk, h⟩
      have hk' := Nat.add_le_of_le_sub' hb hk
      exact List.find?_eq_none.mp hh.symm (b + k) (by rw [List.mem_range']; exact ⟨k, Nat.lt_sub_of_add_lt (Nat.lt_succ_of_le (Nat.add_comm k b ▸ hk')), by rw [Nat.one_mul]⟩) ((key k hk').mp h).1
    | cons k0 r =>
      rw [hp] at hh
      obtain ⟨a1, a2, a3⟩ := List.find?_range'_eq_some.mp hh.symm
      rw [List.mem_range'] at a2
      obtain ⟨i, hi, rfl⟩ := a2
      rw [Nat.one_mul] at a1 a3
      have hlen := atR_len a1
      have hi' := Nat.le_trans (Nat.le_add_right _ _) hlen
      rw [List.length_map] at hlen
      simp only [List.length_map, Nat.one_mul]
      constructor
      · intro h
        exact ⟨i, Nat.le_sub_of_add_le (Nat.add_comm b i ▸ hi'), (key i hi').mpr ⟨a1, h⟩⟩
      · rintro ⟨k, hk, h⟩
        obtain ⟨h1, h2⟩ := (key k (Nat.add_le_of_le_sub' hb hk)).mp h
        have hki : i ≤ k := Nat.le_of_not_lt fun hlt => by
          have := a3 (b + k) (Nat.le_add_right _ _) (Nat.add_lt_add_left hlt b)
          rw [h1] at this; cases this
        have hl2 := atR_len h1
        rw [List.length_map] at hl2
        rw [ih _ hl2, hS] at h2
        rw [ih _ hlen, hS]
        exact takes_later (Nat.add_le_add_right (Nat.add_le_add_left hki b) _) hl2 h2
theorem reads_ren {s : Shp} (h1 : ∀ w ∈ s.1, Wrd w) (h2 : ∀ q ∈ s.2, ∀ w ∈ q, Wrd w) {name : List Nat} (hn : Ab name) : readsR name (runsOf s) = takes (ren itf s) name := by
  obtain ⟨a, r⟩ := s
  dsimp only at h1 h2
  cases r with
  | nil =>
    have e : ren itf (a, []) = a.map fun w => some (itf w) := by simp [ren]
    rw [e, takes_end h1 hn]
    simp only [runsOf, readsR]
    rw [atR_Mt (Nat.zero_le _)]
    simp
  | cons q r =>
    have e : ren itf (a, q :: r) = a.map (fun w => some (itf w)) ++ stars (q :: r) := rfl
    rw [e, takes_words h1 hn]
    simp only [runsOf, readsR]
    rw [atR_Mt (Nat.zero_le _), List.drop_zero, List.length_map]
    cases h : Mt (a.map prx) name with
    | false => rfl
    | true =>
      have hl := Mt_len h
      simp at hl
      have hsp := List.dropLast_concat_getLast (l := q :: r) (by simp)
      rw [Bool.true_and, Bool.true_and, mid_takes (fun w hw => h2 _ (List.getLast_mem (by simp)) w hw) hn _ _ (fun p hp w hw => h2 p (List.dropLast_subset _ hp) w hw) hl, hsp]
theorem takes_mono {X Y : List Item} (h : ∀ name, takes X name = takes Y name) (it : Item) (name : List Nat) : takes (it :: X) name = takes (it :: Y) name := by
  cases it with
  | none =>
    rw [Bool.eq_iff_iff, takes_star, takes_star]
    simp only [h]
  | some it => cases name with
    | nil => simp only [takes]
    | cons c name => simp only [takes, h]
theorem takes_renS (s : Shp) (name : List Nat) : takes (none :: renS itf s) name = takes (none :: ren itf s) name := by
  obtain ⟨a, r⟩ := s
  cases a with
  | cons w a => rfl
  | nil => cases r with
    | nil => rfl
    | cons q r =>
      have e : ren itf ([], q :: r) = none :: renS itf ([], q :: r) := by simp [ren, renS]
      rw [e, takes_dup]
theorem takes_shp : ∀ {ps : List (List Nat × Item)}, (∀ p ∈ ps, p ∈ pcs) → ∀ name, takes (ps.map (·.2)) name = takes (ren itf (shp (ps.map (·.1)))) name
  | [], _, name => rfl
  | p :: ps, hp, name => by
    have ih := takes_shp (ps := ps) fun p h => hp p (.tail _ h)
    obtain ⟨k1, k2⟩ := itw_pcs p (hp p (.head _))
    simp only [List.map_cons, shp]
    by_cases h : p.1 = [42]
    · rw [if_pos h, ren_star, takes_renS, k2 h]
      exact takes_mono ih _ _
    · rw [if_neg h]
      obtain ⟨it, h1, _⟩ := wrd_fits p.1 (wrd_of (hp p (.head _)) h)
      have e : p.2 = some (itf p.1) := by rw [k1, itf, h1]; rfl
      rw [e]
      have e2 : ren itf (p.1 :: (shp (ps.map (·.1))).1, (shp (ps.map (·.1))).2) = some (itf p.1) :: ren itf (shp (ps.map (·.1))) := by simp [ren]
      rw [e2]
      exact takes_mono ih _ _
theorem reads_takes {ps : List (List Nat × Item)} (hp : ∀ p ∈ ps, p ∈ pcs) {name : List Nat} (hn : Ab name) : readsR name (runsOf (shp (ps.map (·.1)))) = takes (ps.map (·.2)) name := by
  have hw : ∀ w ∈ ps.map (·.1), w ≠ [42] → Wrd w := fun w hw h => by
    obtain ⟨p, hp', rfl⟩ := List.mem_map.mp hw
    exact wrd_of (hp p hp') h
  obtain ⟨h1, h2⟩ := shp_mem _ hw
  rw [reads_ren h1 h2 hn, takes_shp hp]
end
section
noncomputable def le (a b : Ru) : Prop := rlt b a = false
theorem le_iff {a b : Ru} : le a b ↔ (a.r < b.r ∨ (a.r = b.r ∧ a.n ≤ b.n)) := by
  unfold le rlt
  rw [decide_eq_false_iff_not]
  lia
theorem le.refl (a : Ru) : le a a := by rw [le_iff]; lia
theorem le.trans {a b c : Ru} (h : le a b) (k : le b c) : le a c := by rw [le_iff] at *; lia
theorem le_of_lt {a b : Ru} (h : rlt a b = true) : le a b := by
  rw [le_iff]; unfold rlt at h; have := of_decide_eq_true h; lia
noncomputable def up (i : Nat) : Nat := (i - 1) / 2
noncomputable def HP (s : Nat) (h : List Ru) : Prop := ∀ i x y, 0 < i → s ≤ up i → h[up i]? = some x → h[i]? = some y → le x y
structure Hole (s : Nat) (h : List Ru) (p : Nat) : Prop where
  a : ∀ i x y, 0 < i → s ≤ up i → i ≠ p → up i ≠ p → h[up i]? = some x → h[i]? = some y → le x y
  c : ∀ i x y, 0 < i → up i = p → s < p → h[up p]? = some x → h[i]? = some y → le x y
inductive Anc (s : Nat) : Nat → Prop
  | refl : Anc s s
  | step {p} : s < p → Anc s (up p) → Anc s p
theorem Anc.le {s p : Nat} (h : Anc s p) : s ≤ p := by
  cases h with
  | refl => exact Nat.le_refl _
  | step h _ => lia
theorem up_lt {i : Nat} (h : 0 < i) : up i < i := by unfold up; lia
theorem sd_HP (new : Ru) (s : Nat) : ∀ (p : Nat) (h : List Ru), p < h.length → Anc s p → Hole s h p → (∀ i y, 0 < i → up i = p → h[i]? = some y → le new y) → HP s (sd new s h p) := by
  intro p
  induction p using Nat.strongRecOn with
  | ind p ih =>
    intro h hp ha H hb
    have place : (∀ x, s < p → h[up p]? = some x → le x new) → HP s (h.set p new) := fun hx i x y hi hs h1 h2 => by
      by_cases e1 : i = p
      · subst e1
        rw [List.getElem?_set_self hp] at h2
        cases h2
        have hlt := up_lt hi
        rw [List.getElem?_set_ne (by room)] at h1
        exact hx x (by room) h1
      · rw [List.getElem?_set_ne (Ne.symm e1)] at h2
        by_cases e2 : up i = p
        · rw [e2, List.getElem?_set_self hp] at h1
          cases h1
          exact hb i y hi e2 h2
        · rw [List.getElem?_set_ne (Ne.symm e2)] at h1
          exact H.a i x y hi hs e1 e2 h1 h2
    unfold sd
    split
    · rename_i hlt
      have hpl : up p < p := up_lt (by room)
      have hs : s ≤ up p ∧ Anc s (up p) := by
        cases ha with
        | refl => lia
        | step _ k => exact ⟨k.le, k⟩
      have hg : h[up p]? = some h[up p] := List.getElem?_eq_getElem (by room)
      have hg' : h[(p - 1) / 2]? = some h[up p] := hg
      rw [hg']
      dsimp only
      split
      · rename_i hn
        refine ih (up p) hpl (h.set p h[up p]) (by simp; lia) hs.2 ⟨?_, ?_⟩ ?_
        · intro i x y hi hsi e1 e2 h1 h2
          by_cases q1 : i = p
          · exact absurd (congrArg up q1) e2
          · rw [List.getElem?_set_ne (Ne.symm q1)] at h2
            by_cases q2 : up i = p
            · rw [q2, List.getElem?_set_self hp] at h1
              cases h1
              exact H.c i _ y hi q2 hlt hg h2
            · rw [List.getElem?_set_ne (Ne.symm q2)] at h1
              exact H.a i x y hi hsi q1 q2 h1 h2
        · intro i x y hi hup hsp h1 h2
          have hlt2 : up (up p) < up p := up_lt (by room)
          rw [List.getElem?_set_ne (by room)] at h1
          have hs2 : s ≤ up (up p) := by
            cases hs.2 with
            | refl => lia
            | step _ k => exact k.le
          have k1 : le x h[up p] := H.a (up p) x _ (by room) hs2 (by room) (by room) h1 hg
          by_cases q1 : i = p
          · rw [q1, List.getElem?_set_self hp] at h2
            cases h2; exact k1
          · rw [List.getElem?_set_ne (Ne.symm q1)] at h2
            exact k1.trans (H.a i _ y hi (by room) q1 (by room) (by rw [hup]; exact hg) h2)
        · intro i y hi hup h2
          have k1 := le_of_lt hn
          by_cases q1 : i = p
          · rw [q1, List.getElem?_set_self hp] at h2
            cases h2; exact k1
          · rw [List.getElem?_set_ne (Ne.symm q1)] at h2
            exact k1.trans (H.a i _ y hi (by room) q1 (by room) (by rw [hup]; exact hg) h2)
      · rename_i hn
        refine place fun x _ h1 => ?_
        rw [hg] at h1
        cases h1
        simpa [le] using hn
    · rename_i hlt
      have := ha.le
      exact place fun x h1 _ => absurd h1 hlt
theorem up_chd {h : List Ru} {p : Nat} : up (chd h p) = p ∧ p < chd h p := by
  rcases chd_or h p with e | ⟨e, _⟩ <;> rw [e] <;> unfold up <;> lia
theorem up_inv {i p : Nat} (hi : 0 < i) (h : up i = p) : i = 2 * p + 1 ∨ i = 2 * p + 1 + 1 := by unfold up at h; lia
theorem chd_least {h : List Ru} {p i : Nat} {x y : Ru} (hp : 2 * p + 1 < h.length) (hi : 0 < i) (hu : up i = p) (hx : h[chd h p]? = some x) (hy : h[i]? = some y) : le x y := by
  have g1 : h[2 * p + 1]? = some h[2 * p + 1] := List.getElem?_eq_getElem hp
  unfold chd at hx
  rw [g1] at hx
  cases g2 : h[2 * p + 1 + 1]? with
  | none =>
    rw [g2] at hx
    dsimp only at hx
    rcases up_inv hi hu with e | e
    · rw [e, hx] at hy; cases hy; exact le.refl _
    · rw [e, g2] at hy; cases hy
  | some z =>
    rw [g2] at hx
    dsimp only at hx
    by_cases hz : rlt h[2 * p + 1] z = true
    · rw [if_pos hz] at hx
      rw [g1] at hx
      cases hx
      rcases up_inv hi hu with e | e
      · rw [e, g1] at hy; cases hy; exact le.refl _
      · rw [e, g2] at hy; cases hy; exact le_of_lt hz
    · rw [if_neg hz] at hx
      rw [g2] at hx
      cases hx
      rcases up_inv hi hu with e | e
      · rw [e, g1] at hy; cases hy; simpa [le] using hz
      · rw [e, g2] at hy; cases hy; exact le.refl _
theorem su_Hole (s : Nat) : ∀ (n : Nat) (h : List Ru) (p : Nat), h.length - p = n → p < h.length → Anc s p → Hole s h p → Hole s (su h p).1 (su h p).2 ∧ Anc s (su h p).2 ∧ (su h p).1.length ≤ 2 * (su h p).2 + 1 := by
  intro n
  induction n using Nat.strongRecOn with
  | ind n ih =>
    intro h p hn hp ha H
    unfold su
    split
    · rename_i hlt
      have hc : chd h p < h.length := by rcases chd_or h p with e | ⟨e, k⟩ <;> lia
      have hg : h[chd h p]? = some h[chd h p] := List.getElem?_eq_getElem hc
      rw [hg]
      dsimp only
      obtain ⟨hu, hpc⟩ := up_chd (h := h) (p := p)
      have hsp := ha.le
      refine ih (h.length - chd h p) (by room) _ _ (by simp) (by simpa using hc) (.step (by room) (by rw [hu]; exact ha)) ⟨?_, ?_⟩
      · intro i x y hi hsi e1 e2 h1 h2
        by_cases q1 : i = p
        · rw [q1] at h1 h2 hsi hi
          rw [List.getElem?_set_self hp] at h2
          cases h2
          have := up_lt hi
          rw [List.getElem?_set_ne (by room)] at h1
          exact H.c (chd h p) x _ (by room) hu (by room) h1 hg
        · rw [List.getElem?_set_ne (Ne.symm q1)] at h2
          by_cases q2 : up i = p
          · rw [q2, List.getElem?_set_self hp] at h1
            cases h1
            exact chd_least hlt hi q2 hg h2
          · rw [List.getElem?_set_ne (Ne.symm q2)] at h1
            exact H.a i x y hi hsi q1 q2 h1 h2
      · intro i x y hi hui _ h1 h2
        rw [hu, List.getElem?_set_self hp] at h1
        cases h1
        have := up_lt hi
        rw [List.getElem?_set_ne (by room)] at h2
        exact H.a i _ y hi (by room) (by room) (by room) (by rw [hui]; exact hg) h2
    · exact ⟨H, ha, by dsimp only; lia⟩
theorem siftup_HP {h : List Ru} {s : Nat} (hs : s < h.length) (H : HP (s + 1) h) : HP s (siftup h s) := by
  unfold siftup
  rw [List.getElem?_eq_getElem hs]
  dsimp only
  obtain ⟨h1, h2, h3⟩ := su_Hole s _ h s rfl hs .refl ⟨fun i x y hi hs' e1 e2 a b => H i x y hi (by room) a b, fun i x y _ _ hlt => absurd hlt (by room)⟩
  obtain ⟨k1, k2, _⟩ := su_perm h[s] _ h s rfl hs
  refine sd_HP _ s _ _ (by simpa using k1) h2 ⟨fun i x y hi hs' e1 e2 a b => ?_, fun i x y hi hu hlt a b => ?_⟩ fun i y hi hu b => ?_
  · rw [List.getElem?_set_ne (Ne.symm e1)] at b
    rw [List.getElem?_set_ne (Ne.symm e2)] at a
    exact h1.a i x y hi hs' e1 e2 a b
  · have := up_lt hi
    have := up_lt (i := (su h s).2) (by room)
    rw [List.getElem?_set_ne (by room)] at a b
    exact h1.c i x y hi hu hlt a b
  · have hlen := (List.getElem?_eq_some_iff.mp b).1
    rw [List.length_set] at hlen
    rcases up_inv hi hu with e | e <;> lia
theorem hfy_HP : ∀ (k : Nat) (h : List Ru), k ≤ h.length → HP k h → HP 0 (hfy h k)
  | 0, h, _, H => H
  | k + 1, h, hk, H => by
    unfold hfy
    have hl := (siftup_perm (h := h) (pos := k) (by room)).length_eq
    exact hfy_HP k _ (by room) (siftup_HP (by room) H)
theorem hfy_perm : ∀ (k : Nat) (h : List Ru), k ≤ h.length → (hfy h k).Perm h
  | 0, h, _ => List.Perm.refl _
  | k + 1, h, hk => by
    unfold hfy
    have hp := siftup_perm (h := h) (pos := k) (by room)
    have hl := hp.length_eq
    exact (hfy_perm k _ (by room)).trans hp
theorem heapf_HP (h : List Ru) : HP 0 (heapf h) := hfy_HP _ _ (by room) fun i x y hi hs _ h2 => by
  have := (List.getElem?_eq_some_iff.mp h2).1
  unfold up at hs
  lia
theorem heapf_perm (h : List Ru) : (heapf h).Perm h := hfy_perm _ _ (by room)
theorem anc0 : ∀ p : Nat, Anc 0 p := fun p => by
  induction p using Nat.strongRecOn with
  | ind p ih =>
    rcases Nat.eq_zero_or_pos p with rfl | h
    · exact .refl
    · exact .step h (ih _ (up_lt h))
theorem hpush_HP {h : List Ru} (x : Ru) (H : HP 0 h) : HP 0 (hpush h x) := by
  unfold hpush
  refine sd_HP x 0 h.length (h ++ [x]) (by simp) (anc0 _) ⟨fun i a b hi _ e1 e2 h1 h2 => ?_, fun i a b hi hu _ h1 h2 => ?_⟩ fun i y hi hu h2 => ?_
  · have hl := (List.getElem?_eq_some_iff.mp h2).1
    simp at hl
    have := up_lt hi
    rw [List.getElem?_append_left (by room)] at h1 h2
    exact H i a b hi (Nat.zero_le _) h1 h2
  · have hl := (List.getElem?_eq_some_iff.mp h2).1
    simp at hl
    have := up_lt hi
    lia
  · have hl := (List.getElem?_eq_some_iff.mp h2).1
    simp at hl
    have := up_lt hi
    lia
theorem set0_HP {x : Ru} {r : List Ru} {y : Ru} (H : HP 0 (x :: r)) : HP 1 (y :: r) := fun i a b hi hs h1 h2 => by
  have := up_lt hi
  obtain ⟨j, rfl⟩ : ∃ j, i = j + 1 := ⟨i - 1, by lia⟩
  obtain ⟨k, hk⟩ : ∃ k, up (j + 1) = k + 1 := ⟨up (j + 1) - 1, by lia⟩
  rw [hk] at h1
  refine H (j + 1) a b hi (Nat.zero_le _) ?_ ?_
  · rw [hk]; simpa using h1
  · simpa using h2
theorem hrepl_HP {x y : Ru} {r : List Ru} (H : HP 0 (x :: r)) : HP 0 (hrepl (x :: r) y) := siftup_HP (by simp) (set0_HP H)
theorem HP.take {h : List Ru} (H : HP 0 h) (g : List Ru) (hg : ∃ t, h = g ++ t) : HP 0 g := fun i a b hi hs h1 h2 => by
  obtain ⟨t, rfl⟩ := hg
  have hl1 := (List.getElem?_eq_some_iff.mp h1).1
  have hl2 := (List.getElem?_eq_some_iff.mp h2).1
  exact H i a b hi hs (by rw [List.getElem?_append_left hl1]; exact h1) (by rw [List.getElem?_append_left hl2]; exact h2)
theorem hpop_HP {x : Ru} {r : List Ru} (H : HP 0 (x :: r)) : HP 0 (hpop (x :: r)) := by
  unfold hpop
  dsimp only
  cases hl : r.getLast? with
  | none => exact fun i a b hi hs h1 h2 => by simp at h2
  | some y =>
    obtain ⟨ys, e⟩ := List.getLast?_eq_some_iff.mp hl
    have hd : r.dropLast = ys := by rw [e]; simp
    rw [hd]
    exact siftup_HP (by simp) (set0_HP (x := x) (H.take (x :: ys) ⟨[y], by rw [e]; simp⟩))
theorem top_least {x : Ru} {r : List Ru} (H : HP 0 (x :: r)) : ∀ y ∈ x :: r, le x y := by
  have main : ∀ (i : Nat) (y : Ru), (x :: r)[i]? = some y → le x y := fun i => by
    induction i using Nat.strongRecOn with
    | ind i ih =>
      intro y hy
      rcases Nat.eq_zero_or_pos i with rfl | hi
      · have e : x = y := by simpa using hy
        rw [e]; exact le.refl _
      · have hlt := up_lt hi
        have hl := (List.getElem?_eq_some_iff.mp hy).1
        have hg : (x :: r)[up i]? = some (x :: r)[up i] := List.getElem?_eq_getElem (by room)
        exact (ih _ hlt _ hg).trans (H i _ y hi (Nat.zero_le _) hg hy)
  intro y hy
  obtain ⟨i, hi, e⟩ := List.getElem_of_mem hy
  exact main i y (by rw [List.getElem?_eq_getElem hi, e])
end
section
structure Rl where
  r : Nat
  n : Nat
  ps : List (List Nat × Item)
noncomputable def Rl.pr (p : Rl) : Pr := ⟨p.r, p.n, p.ps.map (·.2)⟩
noncomputable def Rl.runs (p : Rl) : Runs := runsOf (shp (p.ps.map (·.1)))
noncomputable def Rl.ru (p : Rl) : Ru := ⟨p.r, p.n, .lst (p.runs.list.map runAV)⟩
noncomputable def rl (x k : Nat) : Rl := ⟨x / 8 % 3, k, itms x⟩
noncomputable def qlt (a b : Rl) : Bool := rlt a.ru b.ru
theorem qlt_iff {a b : Rl} : qlt a b = true ↔ (a.r < b.r ∨ (a.r = b.r ∧ a.n < b.n)) := by
  show decide ((a.r : Int) < b.r ∨ ((a.r : Int) = b.r ∧ (a.n : Int) < b.n)) = true ↔ _
  rw [decide_eq_true_eq]; lia
theorem qlt_pr (a b : Rl) : plt a.pr b.pr = qlt a b := by
  rw [Bool.eq_iff_iff, qlt_iff]
  show decide (a.r < b.r ∨ (a.r = b.r ∧ a.n < b.n)) = true ↔ _
  rw [decide_eq_true_eq]
noncomputable def rput (w : List Rl) (p : Rl) : List Rl := w.filter (fun x => qlt x p) ++ [p] ++ w.filter (fun x => qlt p x)
theorem rput_pr (w : List Rl) (p : Rl) : (rput w p).map Rl.pr = pput (w.map Rl.pr) p.pr := by
  unfold rput pput
  have h1 : (w.map Rl.pr).filter (fun x => plt x p.pr) = (w.filter fun x => qlt x p).map Rl.pr := by rw [List.filter_map]; congr 1; apply List.filter_congr; intro x _; exact qlt_pr x p
  have h2 : (w.map Rl.pr).filter (fun x => plt p.pr x) = (w.filter fun x => qlt p x).map Rl.pr := by rw [List.filter_map]; congr 1; apply List.filter_congr; intro x _; exact qlt_pr p x
  rw [h1, h2]; simp
noncomputable abbrev Srt (w : List Rl) : Prop := w.Pairwise fun a b => qlt a b = true
structure Inv (h : List Ru) (w : List Rl) (k : Nat) : Prop where
  hp : HP 0 h
  perm : h.Perm (w.map Rl.ru)
  srt : Srt w
  nk : ∀ p ∈ w, p.n < k
  ps : ∀ p ∈ w, p.ps.length ≤ 3 ∧ ∀ q ∈ p.ps, q ∈ pcs
  nd : (w.map (·.n)).Nodup
  len : w.length ≤ k
theorem Inv.nil : Inv [] [] 0 := ⟨fun i x y _ _ _ h => by simp at h, List.Perm.refl _, .nil, by simp, by simp, by simp, by simp⟩
theorem rput_perm {w : List Rl} {p : Rl} (h : ∀ q ∈ w, q.n ≠ p.n) : (rput w p).Perm (p :: w) := by
  have h1 : w.filter (fun x => qlt p x) = w.filter fun x => !qlt x p := by
    apply List.filter_congr
    intro x hx
    have := h x hx
    rw [Bool.eq_iff_iff, qlt_iff, Bool.not_eq_true', ← Bool.not_eq_true, qlt_iff]
    lia
  unfold rput
  rw [h1, List.append_assoc]
  refine List.perm_middle.trans ?_
  exact List.Perm.cons p (List.filter_append_perm _ _)
theorem rput_srt {w : List Rl} {p : Rl} (h : Srt w) : Srt (rput w p) := by
  unfold rput Srt
  rw [List.pairwise_append, List.pairwise_append]
  refine ⟨⟨h.sublist List.filter_sublist, List.pairwise_singleton _ _, fun a ha b hb => ?_⟩, h.sublist List.filter_sublist, fun a ha b hb => ?_⟩
  · rw [List.mem_singleton] at hb; subst hb
    exact (List.mem_filter.mp ha).2
  · have hb2 := (List.mem_filter.mp hb).2
    rcases List.mem_append.mp ha with ha | ha
    · have ha2 := (List.mem_filter.mp ha).2
      rw [qlt_iff] at *; lia
    · rw [List.mem_singleton] at ha; subst ha; exact hb2
theorem itms_pcs (x : Nat) : ∀ q ∈ itms x, q ∈ pcs := by
  intro q hq
  unfold itms at hq
  obtain ⟨k, hk, rfl⟩ := List.mem_map.mp hq
  have h20 : k < 20 := by have := (List.mem_filter.mp hk).2; simpa using this
  have hl : pcs.length = 20 := rfl
  rw [List.getD_eq_getElem?_getD, List.getElem?_eq_getElem (by room)]
  exact List.getElem_mem _
theorem Inv.ins {h h' : List Ru} {w : List Rl} {k x : Nat} (I : Inv h w k) (H : HP 0 h') (hp : h'.Perm ((rl x k).ru :: w.map Rl.ru)) : Inv h' (rput w (rl x k)) (k + 1) := by
  have hne : ∀ q ∈ w, q.n ≠ (rl x k).n := fun q hq e => by have := I.nk q hq; rw [e] at this; exact Nat.lt_irrefl _ this
  have hpp := rput_perm hne
  have hmem : ∀ q ∈ rput w (rl x k), q = rl x k ∨ q ∈ w := fun q hq => by simpa using hpp.subset hq
  refine ⟨H, hp.trans (hpp.map Rl.ru).symm, rput_srt I.srt, fun q hq => ?_, fun q hq => ?_, ?_, ?_⟩
  · rcases hmem q hq with rfl | hq
    · exact Nat.lt_succ_self _
    · have := I.nk q hq; lia
  · rcases hmem q hq with rfl | hq
    · exact ⟨itms_len x, itms_pcs x⟩
    · exact I.ps q hq
  · refine ((hpp.map (·.n)).nodup_iff).mpr ?_
    rw [List.map_cons, List.nodup_cons]
    refine ⟨fun hm => ?_, I.nd⟩
    obtain ⟨q, hq, e⟩ := List.mem_map.mp hm
    exact hne q hq e
  · have := hpp.length_eq
    have := I.len
    simp at *; lia
theorem Inv.next {h : List Ru} {w : List Rl} {k : Nat} (I : Inv h w k) : Inv h w (k + 1) := ⟨I.hp, I.perm, I.srt, fun p hp => by have := I.nk p hp; lia, I.ps, I.nd, by have := I.len; lia⟩
theorem Inv.sub {h h' : List Ru} {w w' : List Rl} {k : Nat} (I : Inv h w k) (s : w'.Sublist w) (H : HP 0 h') (hp : h'.Perm (w'.map Rl.ru)) : Inv h' w' k :=
  ⟨H, hp, I.srt.sublist s, fun p hp => I.nk p (s.subset hp), fun p hp => I.ps p (s.subset hp), (s.map _).nodup I.nd, by have := s.length_le; have := I.len; lia⟩
theorem Inv.heapLen {h : List Ru} {w : List Rl} {k : Nat} (I : Inv h w k) : h.length = w.length := by have := I.perm.length_eq; simpa using this
theorem Inv.nil_w {w : List Rl} {k : Nat} (I : Inv [] w k) : w = [] := by have := I.heapLen; simpa using this.symm
theorem Inv.head {x : Ru} {r : List Ru} {w : List Rl} {k : Nat} (I : Inv (x :: r) w k) : ∃ q w', w = q :: w' ∧ x = q.ru := by
  cases w with
  | nil => have := I.heapLen; simp at this
  | cons q w' =>
    refine ⟨q, w', rfl, ?_⟩
    obtain ⟨p, hp, e⟩ := List.mem_map.mp (I.perm.subset (List.mem_cons_self (a := x)))
    rcases List.mem_cons.mp hp with rfl | hp
    · exact e.symm
    · exfalso
      have h1 : qlt q p = true := (List.pairwise_cons.mp I.srt).1 p hp
      have h2 : le x q.ru := top_least I.hp _ (I.perm.symm.subset (by simp))
      rw [← e] at h2
      unfold le at h2
      have : qlt q p = false := h2
      rw [this] at h1; cases h1
theorem Inv.rest {q : Rl} {r : List Ru} {w' : List Rl} {k : Nat} (I : Inv (q.ru :: r) (q :: w') k) : r.Perm (w'.map Rl.ru) := by
  have := I.perm
  rw [List.map_cons] at this
  exact this.cons_inv
theorem Inv.pop {q : Rl} {r : List Ru} {w' : List Rl} {k : Nat} (I : Inv (q.ru :: r) (q :: w') k) : Inv (hpop (q.ru :: r)) w' k :=
  I.sub (List.sublist_cons_self _ _) (hpop_HP I.hp) ((hpop_perm q.ru r).cons_inv.trans I.rest)
theorem Inv.push {h : List Ru} {w : List Rl} {k x : Nat} (I : Inv h w k) : Inv (hpush h (rl x k).ru) (rput w (rl x k)) (k + 1) :=
  I.ins (hpush_HP _ I.hp) ((hpush_perm h _).trans (I.perm.cons _))
theorem hrepl_perm (x y : Ru) (r : List Ru) : (hrepl (x :: r) y).Perm (y :: r) := siftup_perm (by simp)
theorem Inv.repl {q : Rl} {r : List Ru} {w' : List Rl} {k x : Nat} (I : Inv (q.ru :: r) (q :: w') k) : Inv (hrepl (q.ru :: r) (rl x k).ru) (rput w' (rl x k)) (k + 1) :=
  (I.sub (h' := hpop (q.ru :: r)) (List.sublist_cons_self _ _) I.pop.hp I.pop.perm).ins (hrepl_HP I.hp) ((hrepl_perm _ _ _).trans (I.rest.cons _))
theorem rput_lt {q p : Rl} {w : List Rl} (h : qlt q p = true) : rput (q :: w) p = q :: rput w p := by
  have h2 : qlt p q = false := by rw [← Bool.not_eq_true, qlt_iff]; rw [qlt_iff] at h; lia
  unfold rput
  simp [h, h2]
theorem rput_gt {q p : Rl} {w : List Rl} (hs : Srt (q :: w)) (h : qlt p q = true) : rput (q :: w) p = p :: q :: w := by
  have all : ∀ x ∈ q :: w, qlt p x = true := fun x hx => by
    rcases List.mem_cons.mp hx with rfl | hx
    · exact h
    · have := (List.pairwise_cons.mp hs).1 x hx
      rw [qlt_iff] at *; lia
  have h1 : (q :: w).filter (fun x => qlt x p) = [] := by
    rw [List.filter_eq_nil_iff]
    intro x hx
    have := all x hx
    rw [qlt_iff] at *; lia
  have h2 : (q :: w).filter (fun x => qlt p x) = q :: w := List.filter_eq_self.mpr all
  unfold rput
  rw [h1, h2]; rfl
theorem Inv.pp {h : List Ru} {w : List Rl} {k x : Nat} (I : Inv h w k) : ∃ q w', rput w (rl x k) = q :: w' ∧ (hpp h (rl x k).ru).1 = q.ru ∧ Inv (hpp h (rl x k).ru).2 w' (k + 1) := by
  cases h with
  | nil =>
    have e := I.nil_w
    subst e
    exact ⟨rl x k, [], rfl, rfl, I.next⟩
  | cons y r =>
    obtain ⟨q, w', rfl, rfl⟩ := I.head
    unfold hpp
    dsimp only
    by_cases hlt : rlt q.ru (rl x k).ru = true
    · rw [if_pos hlt]
      exact ⟨q, rput w' (rl x k), rput_lt hlt, rfl, I.repl⟩
    · rw [if_neg hlt]
      have hne : q.n ≠ k := by have := I.nk q (.head _); lia
      have hgt : qlt (rl x k) q = true := by
        have h1 : ¬ qlt q (rl x k) = true := hlt
        rw [qlt_iff] at h1 ⊢
        have : (rl x k).n = k := rfl
        lia
      exact ⟨rl x k, q :: w', rput_gt I.srt hgt, rfl, I.next⟩
theorem lf_out (rd : Ru → Bool) : ∀ (w : List Rl) (g ps : List Ru) (k : Nat), Inv g w k → (lf rd g.length g ps).1 = (match w.find? (fun p => rd p.ru) with | some p => (p.n : Int) | none => -1) ∧ HP 0 (lf rd g.length g ps).2.1
  | [], g, ps, k, I => by
    have : g = [] := by have := I.heapLen; simpa using this
    subst this
    exact ⟨rfl, I.hp⟩
  | q :: w', g, ps, k, I => by
    cases g with
    | nil => have := I.heapLen; simp at this
    | cons x r =>
      obtain ⟨q', w'', e, hx⟩ := I.head
      cases e
      subst hx
      rw [List.length_cons]
      unfold lf
      by_cases h : rd q.ru = true
      · rw [if_pos h]
        simp [h]
        exact ⟨rfl, I.pop.hp⟩
      · rw [if_neg h]
        have ih := lf_out rd w' (hpop (q.ru :: r)) (ps ++ [q.ru]) k I.pop
        rw [hpop_len] at ih
        have e : (q :: w').find? (fun p => rd p.ru) = w'.find? fun p => rd p.ru := by simp [h]
        rw [e]
        exact ih
theorem pushes_HP : ∀ (ps h : List Ru), HP 0 h → HP 0 (pushes h ps)
  | [], _, H => H
  | x :: ps, _, H => pushes_HP ps _ (hpush_HP x H)
theorem find_takers {w : List Rl} {rd : Ru → Bool} {name : List Nat} (h : ∀ p ∈ w, rd p.ru = takes (p.ps.map (·.2)) name) :
    (match w.find? (fun p => rd p.ru) with | some p => (p.n : Int) | none => -1) = fst1 (takers (w.map Rl.pr) name) := by
  induction w with
  | nil => rfl
  | cons q w ih =>
    have hq := h q (.head _)
    have ih := ih fun p hp => h p (.tail _ hp)
    have e : takers ((q :: w).map Rl.pr) name = if rd q.ru then q.n :: takers (w.map Rl.pr) name else takers (w.map Rl.pr) name := by
      rw [hq]
      unfold takers
      rw [List.map_cons, List.filter_cons]
      have : (Rl.pr q).its = q.ps.map (·.2) := rfl
      rw [this]
      split <;> rfl
    rw [e]
    by_cases hr : rd q.ru = true
    · simp [hr, fst1]
    · simp only [List.find?_cons, hr, if_false, Bool.false_eq_true]
      exact ih
theorem Inv.first {h : List Ru} {w : List Rl} {k : Nat} {rd : Ru → Bool} {name : List Nat} (I : Inv h w k) (hr : ∀ p ∈ w, rd p.ru = takes (p.ps.map (·.2)) name) : lfound rd h = fst1 (takers (w.map Rl.pr) name) ∧ Inv (lheap rd h) w k := by
  obtain ⟨h1, h2⟩ := lf_out rd w h [] k I
  exact ⟨h1.trans (find_takers hr), I.sub (List.Sublist.refl _) (pushes_HP _ _ h2) ((lheap_perm rd h).trans I.perm)⟩
theorem Inv.filt {h : List Ru} {w : List Rl} {k : Nat} {f : Ru → Bool} (I : Inv h w k) : Inv (heapf (h.filter f)) (w.filter fun p => f p.ru) k :=
  I.sub List.filter_sublist (heapf_HP _) ((heapf_perm _).trans (by
    have := I.perm.filter f
    rw [List.filter_map] at this
    exact this))
theorem row_filt {w : List Rl} {name : List Nat} (hd : (w.map (·.n)).Nodup) : (w.map Rl.pr).filter (fun q => !((takers (w.map Rl.pr) name).any (· == q.n))) = (w.filter fun p => !takes (p.ps.map (·.2)) name).map Rl.pr := by
  rw [List.filter_map]
  congr 1
  apply List.filter_congr
  intro p hp
  show (!((takers (w.map Rl.pr) name).any (· == p.n))) = _
  congr 1
  rw [Bool.eq_iff_iff, List.any_eq_true]
  constructor
  · rintro ⟨n, hn, e⟩
    have e : n = p.n := by simpa using e
    subst e
    unfold takers at hn
    obtain ⟨q, hq, e⟩ := List.mem_map.mp hn
    obtain ⟨hq1, hq2⟩ := List.mem_filter.mp hq
    obtain ⟨q', hq', rfl⟩ := List.mem_map.mp hq1
    have e : q'.n = p.n := e
    have : q' = p := by
      obtain ⟨i, hi, ei⟩ := List.getElem_of_mem hq'
      obtain ⟨j, hj, ej⟩ := List.getElem_of_mem hp
      have : i = j := (List.getElem_inj (h₀ := by simpa using hi) (h₁ := by simpa using hj) hd).mp (by simp [ei, ej, e])
      subst this
      rw [← ei, ← ej]
    subst this
    exact hq2
  · intro h
    exact ⟨p.n, List.mem_map.mpr ⟨p.pr, List.mem_filter.mpr ⟨List.mem_map_of_mem hp, h⟩, rfl⟩, by simp⟩
end
section
noncomputable abbrev wsOf (x : Nat) : List Wd := (itms x).map (·.1)
noncomputable def txt (x : Nat) : List Nat := jtxt ((shp (wsOf x)).1.map ptx) ((shp (wsOf x)).2.map fun q => q.map ptx)
theorem ws_wrd (x : Nat) : ∀ w ∈ wsOf x, w ≠ [42] → Wrd w := fun w hw h => by
  obtain ⟨p, hp, rfl⟩ := List.mem_map.mp hw
  exact wrd_of (itms_pcs x p hp) h
theorem ws_len (x : Nat) : (wsOf x).length ≤ 3 := by have := itms_len x; simpa using this
theorem pcs_small : ∀ p ∈ pcs, p.1.length ≤ 6 := by decide +kernel
theorem flat6 : ∀ ps : List (List Nat × Item), (∀ p ∈ ps, p ∈ pcs) → (ps.map (·.1)).flatten.length ≤ 6 * ps.length
  | [], _ => by simp
  | p :: ps, h => by
    have h1 := flat6 ps fun p hp => h p (.tail _ hp)
    have h2 := pcs_small p (h p (.head _))
    simp only [List.map_cons, List.flatten_cons, List.length_append, List.length_cons]; lia
theorem txt_body (x : Nat) : (((shp (wsOf x)).1.map ptx).flatten ++ jst ((shp (wsOf x)).2.map fun q => q.map ptx)).length ≤ 30 := by
  have h1 := txt_len (ws_wrd x)
  have h2 := ws_len x
  lia
theorem txt_len2 (x : Nat) : (txt x).length ≤ 100 := by
  have := txt_body x
  unfold txt jtxt
  simp only [List.length_append, List.length_cons, List.length_nil] at this ⊢
  lia
theorem txt_front (x : Nat) : slc (txt x) none (some 4) = [40, 63, 115, 58] := by
  have e := clip_nat (txt x).length 4
  have e2 : clipAt (txt x).length 4 = 4 := by
    refine e.trans (Nat.min_eq_left ?_)
    unfold txt jtxt; simp
  unfold slc slo shi
  simp only [Option.elim, e2]
  unfold txt jtxt; simp
theorem txt_back (x : Nat) : slc (txt x) (some (-3)) none = [41, 92, 90] := by
  unfold txt jtxt
  generalize [40, 63, 115, 58] ++ (((shp (wsOf x)).1.map ptx).flatten ++ jst ((shp (wsOf x)).2.map fun q => q.map ptx)) = b
  have h2 : clipAt (b ++ [41, 92, 90]).length (-3) = b.length := by have := clipAt_cast (b ++ [41, 92, 90]).length (-3); simp at this ⊢; lia
  unfold slc slo shi
  simp only [Option.elim, h2]
  simp
theorem Full.map {rs : List (List Wd)} (h : Full rs) : ∀ a q b, (rs.map fun q => q.map ptx) = a ++ q :: b → q = [] → b = [] := fun a q b e hq => by
  rw [List.map_eq_append_iff] at e
  obtain ⟨a', c, rfl, rfl, e⟩ := e
  rw [List.map_eq_cons_iff] at e
  obtain ⟨q', b', rfl, e1, rfl⟩ := e
  rw [hq] at e1
  rw [h.at a' q' b' rfl (by simpa using e1)]
  rfl
theorem nam_ab (x : Nat) : Ab (nam x) := fun c hc => by
  unfold nam at hc
  obtain ⟨k, _, rfl⟩ := List.mem_map.mp hc
  generalize hj : x / 255552 / 4 ^ (k + 1) % 4 = j
  have : j < 4 := by rw [← hj]; exact Nat.mod_lt _ (by decide)
  unfold nch
  rcases (by lia : j = 0 ∨ j = 1 ∨ j = 2 ∨ j = 3) with rfl | rfl | rfl | rfl <;> decide
section
variable {T : TopCx} {μ : Sto}
theorem fn_txt {d : Nat} (hd : 2 ≤ d) (x : Nat) : Fn T (.ref 43) (d + 1) [.str (wsOf x).flatten] μ (.str (txt x)) μ :=
  fn_translate hd (ws := wsOf x) (fun w hw => by
    obtain ⟨p, hp, rfl⟩ := List.mem_map.mp hw
    exact pcs_ok p (itms_pcs x p hp)) (by have := ws_len x; lia) rfl (by have := flat6 (itms x) (itms_pcs x); have := itms_len x; show ((itms x).map (·.1)).flatten.length < _; lia) (parts_shp _) (shp_full _).map (by have := txt_body x; lia)
theorem fn_txr {d : Nat} (hd : 3 ≤ d) (x k : Nat) : Fn T (.ref 168) (d + 1) [.str (txt x)] μ (.lst ((rl x k).runs.list.map runAV)) μ := by
  obtain ⟨h1, h2⟩ := shp_mem _ (ws_wrd x)
  have := fn_runs (T := T) (μ := μ) (d := d) (text := txt x) hd (by unfold txt jtxt; simp [tl3]) (row_text h1 h2) (by have := txt_len2 x; lia)
  rw [splitR_ren, ← runsOf_list] at this
  exact this
end
noncomputable def rdOf (w : List Rl) (name : List Nat) (u : Ru) : Bool := w.any fun p => decide ((p.n : Int) = u.n) && takes (p.ps.map (·.2)) name
theorem nd_eq {w : List Rl} (hd : (w.map (·.n)).Nodup) {p q : Rl} (hp : p ∈ w) (hq : q ∈ w) (e : p.n = q.n) : p = q := by
  obtain ⟨i, hi, ei⟩ := List.getElem_of_mem hp
  obtain ⟨j, hj, ej⟩ := List.getElem_of_mem hq
  have : i = j := (List.getElem_inj (h₀ := by simpa using hi) (h₁ := by simpa using hj) hd).mp (by simp [ei, ej, e])
  subst this
  rw [← ei, ← ej]
theorem rdOf_eq {w : List Rl} (hd : (w.map (·.n)).Nodup) (name : List Nat) : ∀ p ∈ w, rdOf w name p.ru = takes (p.ps.map (·.2)) name := fun p hp => by
  unfold rdOf
  rw [Bool.eq_iff_iff, List.any_eq_true]
  constructor
  · rintro ⟨q, hq, h⟩
    obtain ⟨h1, h2⟩ := Bool.and_eq_true_iff.mp h
    have h1 : (q.n : Int) = (p.n : Int) := of_decide_eq_true h1
    rw [nd_eq hd hq hp (by room)] at h2
    exact h2
  · intro h
    exact ⟨p, hp, by rw [h]; simp [Rl.ru]⟩
theorem Inv.rd {h : List Ru} {w : List Rl} {k : Nat} (I : Inv h w k) {name : List Nat} (hn : Ab name) : ∀ x ∈ h, Rd name (rdOf w name) x := fun x hx => by
  obtain ⟨p, hp, rfl⟩ := List.mem_map.mp (I.perm.subset hx)
  obtain ⟨h1, h2⟩ := I.ps p hp
  have hw : ∀ w ∈ p.ps.map (·.1), w ≠ [42] → Wrd w := fun w hw h => by
    obtain ⟨q, hq, rfl⟩ := List.mem_map.mp hw
    exact wrd_of (h2 q hq) h
  obtain ⟨a1, a2⟩ := runs_sm hw (by simp; lia)
  exact ⟨Int.natCast_nonneg _, p.runs, rfl, a1, a2, by rw [rdOf_eq I.nd name p hp]; exact reads_takes h2 hn⟩
theorem Inv.ndh {h : List Ru} {w : List Rl} {k : Nat} (I : Inv h w k) : (h.map (·.n)).Nodup := by
  refine ((I.perm.map (·.n)).nodup_iff).mpr ?_
  rw [List.map_map]
  have : ((w.map (·.n)).map fun (n : Nat) => (n : Int)).Nodup := by
    rw [List.nodup_iff_pairwise_ne, List.pairwise_map]
    exact I.nd.imp fun h e => h (by room)
  rwa [List.map_map] at this
theorem Inv.nlt {h : List Ru} {w : List Rl} {k : Nat} (I : Inv h w k) : ∀ y ∈ h, y.n ≠ k := fun y hy e => by
  obtain ⟨p, hp, rfl⟩ := List.mem_map.mp (I.perm.subset hy)
  have := I.nk p hp
  have e : (p.n : Int) = k := e
  lia
theorem Inv.ndx {h : List Ru} {w : List Rl} {k x : Nat} (I : Inv h w k) : ((h ++ [(rl x k).ru]).map (·.n)).Nodup := by
  rw [List.map_append, List.nodup_append]
  refine ⟨I.ndh, by simp, fun a ha b hb => ?_⟩
  obtain ⟨y, hy, rfl⟩ := List.mem_map.mp ha
  have : b = k := by simpa [rl, Rl.ru] using hb
  rw [this]
  exact I.nlt y hy
end
section
section
variable {T : TopCx} {S : FnS} {C : Cx T S} {σ σ' : Sig} {μ μ' : Sto} {a : Addr} {a' : AV}
noncomputable abbrev S_store : FnS := { names := [("deeds", false), ("heap", true), ("log", false), ("number", false), ("x", true), ("kind", false), ("text", false), ("rule", false), ("answer", false)], globs := [("range", .type "range"), ("len", .builtin "len"), ("translate", .ref 43), ("_law_items", .ref 130), ("_law_runs", .ref 168), ("heappush", .ref 76), ("_law_out", .ref 185), ("heappushpop", .ref 97), ("_law_first", .ref 192), ("_law_name", .ref 135), ("heapify", .ref 104)] }
noncomputable abbrev S_rd : FnS := { names := [("one", false), ("x", true)], globs := [("_law_reads", .ref 178), ("_law_name", .ref 135)], ro := true }
noncomputable abbrev S_fst : FnS := { names := [("name", false), ("heap", true)], globs := [("_law_first", .ref 192)], ro := true }
noncomputable abbrev S_pop : FnS := { names := [("k", false), ("heap", true)], globs := [("heappop", .ref 83)], ro := true }
noncomputable def sgS (ds : List Nat) (a l : Addr) (v1 v2 v3 v4 v5 v6 : AV) : Sig :=
  [("deeds", .lst (ds.map fun (n : Nat) => .int n)), ("heap", .own a), ("log", .own l), ("number", v1), ("x", v2), ("kind", v3), ("text", v4), ("rule", v5), ("answer", v6)]
inductive WSt (ds : List Nat) (l : Addr) (μ : Sto) (as : List AV) : Sig → Sto → Prop
  | mk (k : Nat) (pre xs : List Nat) (h : List Ru) (w : List Rl) (a : Addr) (lg : List AV) (v1 v2 v3 v4 v5 v6 : AV) (has : as = (List.range' k xs.length).map (fun (i : Nat) => AV.int i)) (hds : ds = pre ++ xs) (hpre : pre.length = k) (I : Inv h w k)
      (hlg : lg.length = k) (h1 : lg ++ (prun xs k (w.map Rl.pr)).1 = (prun ds 0 []).1) (h2 : (prun xs k (w.map Rl.pr)).2 = (prun ds 0 []).2) : WSt ds l μ as (sgS ds a l v1 v2 v3 v4 v5 v6) ((a, h.map Ru.av) :: (l, lg) :: μ)
theorem store_tail {C : Cx T S_store} (hI : interactive C.env = false) {ds : List Nat} {a l : Addr} {h : List Ru} {w : List Rl} {k x : Nat} {v1 v2 v3 v5 ans : AV} {lg : List AV} {K : AF → Sig → Sto → Prop} (ha : ans.isUn = false) (I : Inv h w k) (hk : k < 1000) (hlg : lg.length < 1000)
    (hh : K .next (sgS ds a l v1 v2 v3 (.str (txt x)) v5 ans) ((a, h.map Ru.av) :: (l, lg ++ [.tup [.str fr, ans, .int (ptop (w.map Rl.pr))]]) :: μ)) :
    Ex C ((forB 31 2).drop 5) (sgS ds a l v1 v2 v3 (.str (txt x)) v5 ans) ((a, h.map Ru.av) :: (l, lg) :: μ) K := by
  have hlh := I.heapLen
  have hlw := I.len
  have htl := txt_len2 x
  unfold sgS at hh ⊢
  refine ex_expr (evs_meth (a := .own l) (as := [.tup [.str fr, ans, .int (ptop (w.map Rl.pr))]]) (by dictfold_shaped) (isOf_list (LstAt.own (.tail _ (.head _)))) m_append (evl_cons (ev_tuple (evl_cons (μ₁ := (a, h.map Ru.av) :: (l, lg) :: μ) (a := .str fr) ?_ (evl_cons (ev_name (by dictfold_has) ha) (evl_cons (μ₁ := (a, h.map Ru.av) :: (l, lg) :: μ) ?_ evl_nil)))) evl_nil) (ca_append (.tail _ (.head _)) (.tail .head) (by unfold sizeLine; lia))) (ex_nil hh) hI
  · exact evs_bin (a := .str [40, 63, 115, 58]) (b := .str [41, 92, 90]) (evs_slice (by dictfold_shaped) evo_none (evo_some (by dictfold_shaped)) (slcs (txt_front x) (by room))) (evs_slice (by dictfold_shaped) (evo_some (ev_neg (by dictfold_shaped))) evo_none (slcs (txt_back x) (by room))) (op_adds (by decide))
  · refine evs_ife (b := !h.isEmpty) (evt_cmp (a := .own a) (by dictfold_shaped) ev_nil (by have := cmp_ne_nil (C := C) (σ := sgS ds a l v1 v2 v3 (.str (txt x)) v5 ans) (μ := (a, h.map Ru.av) :: (l, lg) :: μ) (LstAt.own (.head _)) (by simp; lia); rw [List.isEmpty_map] at this; exact this) rfl) (fun q => ?_) fun q => ?_
    · cases h with
      | nil => cases q
      | cons y r =>
        obtain ⟨q0, w', rfl, rfl⟩ := I.head
        exact evs_item (a := q0.ru.av) (evs_item (a := .own a) (by dictfold_shaped) (by dictfold_shaped) (itm_list (LstAt.own (.head _)) (nth_nat (i := 0) rfl) (by simp at hlh hlw ⊢; lia))) (by dictfold_shaped) (itm_tup (nth_nat (i := 1) rfl) (by show 3 < 2 ^ 62; decide))
    · cases h with
      | nil => rw [I.nil_w]; exact ev_neg (by dictfold_shaped)
      | cons y r => cases q
theorem store_head {C : Cx T S_store} (hd : 10 ≤ C.d) {ds : List Nat} {a l : Addr} {M : Sto} {k x : Nat} {v2 v3 v4 v5 v6 : AV} {K : AF → Sig → Sto → Prop} (hx : x < 2 ^ 40) (hk : k < 1000) (hl : ds.length < 1000) (hg : ds[k]? = some x)
    (hh : Ex C ((forB 31 2).drop 4) (sgS ds a l (.int k) (.int x) (.int ((x % 8 : Nat) : Int)) (.str (txt x)) (rl x k).ru.av v6) M K) :
    Ex C (forB 31 2) (sgS ds a l (.int k) v2 v3 v4 v5 v6) M K := by
  have hget : (ds.map fun (n : Nat) => AV.int n)[k]? = some (.int x) := by rw [List.getElem?_map, hg]; rfl
  have hil := itms_len x
  unfold sgS at hh ⊢
  refine ex_let (a := .int x) (evs_item (by dictfold_shaped) (by dictfold_shaped) (itm_list (LstAt.lst _) (nth_nat hget) (by simp; lia))) (by dictfold_puts) ?_
  refine ex_let (a := .int ((x % 8 : Nat) : Int)) (by dictfold_shaped) (by dictfold_puts) ?_
  refine ex_let (a := .str (txt x)) (evs_call (as := [.str (wsOf x).flatten]) (by dictfold_shaped) (evl_cons (evs_meth (a := .str []) (as := [.lst ((wsOf x).map .str)]) (ev_str (y := []) (by decide +kernel)) isOf_str m_join (evl_cons (ev_of_evn ?_) evl_nil) (ca_join (LstAt.lst _) (joinF_nil _) (by decide) (by rw [← List.length_flatten]; have := flat6 (itms x) (itms_pcs x); have h2 := ws_len x; have h3 : (wsOf x).flatten.length ≤ 6 * (itms x).length := this; lia))) evl_nil) (by dictfold_shaped2) (ca_fn (fn_txt (d := 2) (by room) x) (by room)) (fun _ _ => rfl)) (by dictfold_puts) ?_
  · have e : (wsOf x).map AV.str = (itms x).map fun p => AV.str p.1 := by simp [wsOf, Function.comp_def]
    rw [e]
    refine evn_comp S_told [("piece", .un), ("told", .un)] (evi_list (evs_call (by dictfold_shaped) (by dictfold_shaped) (by dictfold_shaped2) (ca_fn (fn_items (d := 1) (by room) hx) (by room)) (fun _ _ => rfl))) (by decide +kernel) rfl (by sl_keep) (by simp; unfold sizeLine; lia) fun C' hd => ?_
    exact crun_all _ _ _ fun p hp => asg_pair (asg_local (by decide) (by dictfold_puts) (asg_local (by decide) (by dictfold_puts) ⟨rfl, .un (.un .nil), (by dictfold_shaped)⟩))
  refine ex_let (a := .tup [.int ((x / 8 % 3 : Nat) : Int), .int k, .lst ((rl x k).runs.list.map runAV)]) (ev_tuple (evl_cons (by dictfold_shaped) (evl_cons (by dictfold_shaped) (evl_cons (evs_call (by dictfold_shaped) (by dictfold_shaped) (by dictfold_shaped2) (ca_fn (fn_txr (d := 3) (by room) x k) (by room)) (fun _ _ => rfl)) evl_nil))) (show 3 ≤ sizeLine by decide)) (by dictfold_puts) ?_
  exact hh
end
end
section
section
variable {T : TopCx} {S : FnS} {C : Cx T S} {σ σ' : Sig} {μ μ' : Sto} {a : Addr} {a' : AV}
theorem upd_hd {xs ys : List AV} {M : Sto} : upd a xs ((a, ys) :: M) = (a, xs) :: M := by simp [upd]
noncomputable def heaps (w : List Rl) (h : List Ru) (ns : List (List Nat)) : List Ru := ns.foldl (fun h n => lheap (rdOf w n) h) h
theorem crun_first {C' : Cx T S_fst} (hd : 8 ≤ C'.d) {w : List Rl} {k : Nat} {M : Sto} {p1 p2 p3 p4 p5 : Pos} (hk : k < 1000) : ∀ (ns : List (List Nat)) (h : List Ru), (∀ n ∈ ns, Ab n ∧ n.length < 500) → Inv h w k →
    CRun C' (.Name "name" p1) [] (.Call (.Name "_law_first" p2) [.Name "heap" p3, .Name "name" p4] [] p5) [("name", .un), ("heap", .own a)] (ns.map .str) ((a, h.map Ru.av) :: M) (ns.map fun n => .int (fst1 (takers (w.map Rl.pr) n))) ((a, (heaps w h ns).map Ru.av) :: M) ∧ Inv (heaps w h ns) w k
  | [], h, _, I => ⟨⟨rfl, rfl⟩, I⟩
  | n :: ns, h, hn, I => by
    obtain ⟨ha, hl⟩ := hn n (.head _)
    obtain ⟨h1, h2⟩ := I.first (rd := rdOf w n) (rdOf_eq I.nd n)
    obtain ⟨ih1, ih2⟩ := crun_first (p1 := p1) (p2 := p2) (p3 := p3) (p4 := p4) (p5 := p5) (M := M) hd hk ns (lheap (rdOf w n) h) (fun n hn' => hn n (.tail _ hn')) h2
    have hlh := I.heapLen
    have hlw := I.len
    refine ⟨?_, ih2⟩
    refine asg_local (by decide) (by dictfold_puts) ?_
    refine ⟨.un (Wk.refl _), true, evts_nil, (fun q => nomatch q), fun _ => ⟨.int (fst1 (takers (w.map Rl.pr) n)), (a, (lheap (rdOf w n) h).map Ru.av) :: M, _, ?_, rfl, ih1⟩⟩
    refine evs_call (as := [.own a, .str n]) (by dictfold_shaped) (by dictfold_shaped) (by dictfold_shaped2) (by
      have := ca_fn (C := C') (σ := [("name", .str n), ("heap", .own a)]) (fn_first (T := T) (a := a) (μ := (a, h.map Ru.av) :: M) (d := 6) (rd := rdOf w n) (by room) (I.rd ha) I.ndh (by room) hl (.head _)) (by room)
      rw [upd_hd, h1] at this
      exact this) (fun _ _ => rfl)
theorem crun_pop {C' : Cx T S_pop} (hd : 8 ≤ C'.d) {k : Nat} {M : Sto} {p1 p2 p3 p4 p5 p6 : Pos} {kk : Nat} (hk : k < 1000) : ∀ (w : List Rl) (as : List AV) (h : List Ru), as.length = w.length → Inv h w k →
    CRun C' (.Name "k" p1) [] (.Subscript (.Call (.Name "heappop" p2) [.Name "heap" p3] [] p4) (.Constant (.int 1) kk p5) p6) [("k", .un), ("heap", .own a)] as ((a, h.map Ru.av) :: M) (w.map fun p => .int p.n) ((a, []) :: M)
  | [], as, h, hl, I => by
    have e1 : as = [] := by simpa using hl
    have e2 : h = [] := by have := I.heapLen; simpa using this
    subst e1 e2
    exact ⟨rfl, rfl⟩
  | q :: w, [], h, hl, I => by simp at hl
  | q :: w, a0 :: as, h, hl, I => by
    cases h with
    | nil => have := I.heapLen; simp at this
    | cons x r =>
      obtain ⟨q', w', e, hx⟩ := I.head
      cases e
      subst hx
      have hlh := I.heapLen
      have hlw := I.len
      simp only [List.length_cons] at hlh hlw
      have ih := crun_pop (p1 := p1) (p2 := p2) (p3 := p3) (p4 := p4) (p5 := p5) (p6 := p6) (kk := kk) (M := M) hd hk w as (hpop (q.ru :: r)) (by simpa using hl) I.pop
      refine asg_local (by decide) (by dictfold_puts) ?_
      refine ⟨.un (Wk.refl _), true, evts_nil, (fun q => nomatch q), fun _ => ⟨.int q.n, (a, (hpop (q.ru :: r)).map Ru.av) :: M, _, ?_, rfl, ih⟩⟩
      refine evs_item (a := q.ru.av) (evs_call (as := [.own a]) (by dictfold_shaped) (by dictfold_shaped) (by dictfold_shaped2) (by
        have := ca_fn (C := C') (σ := [("k", a0), ("heap", .own a)]) (fn_heappop (T := T) (a := a) (μ := (a, (q.ru :: r).map Ru.av) :: M) (d := 4) (by room) I.ndh (by room) (by unfold sizeLine; lia) (.head _)) (by room)
        rw [upd_hd] at this
        exact this) (fun _ _ => rfl)) (by dictfold_shaped) (itm_tup (nth_nat (i := 1) rfl) (by show 3 < 2 ^ 62; decide))
theorem names4_ab : ∀ n ∈ names4, Ab n ∧ n.length < 500 := by
  intro n hn
  simp [names4] at hn
  rcases hn with rfl | rfl | rfl | rfl
  · exact ⟨fun c hc => by simp at hc, by decide⟩
  · exact ⟨fun c hc => by simp at hc; lia, by decide⟩
  · exact ⟨fun c hc => by simp at hc; lia, by decide⟩
  · exact ⟨fun c hc => by simp at hc; lia, by decide⟩
set_option maxHeartbeats 1000000 in
theorem store_end {C : Cx T S_store} (hI : interactive C.env = false) (hd : 10 ≤ C.d) {ds : List Nat} {a l : Addr} {h : List Ru} {w : List Rl} {k : Nat} {v1 v2 v3 v4 v5 v6 : AV} {lg : List AV} (I : Inv h w k) (hk : k < 1000) (hlg : lg.length < 1000) :
    Ex C ((fbody 31).drop 3) (sgS ds a l v1 v2 v3 v4 v5 v6) ((a, h.map Ru.av) :: (l, lg) :: μ) (KRet (.lst (lg ++ pend (w.map Rl.pr))) μ) := by
  have hlh := I.heapLen
  have hlw := I.len
  obtain ⟨_, I2⟩ := crun_first (T := T) (C' := ⟨C.A, C.env, 8⟩) (p1 := default) (p2 := default) (p3 := default) (p4 := default) (p5 := default) (a := a) (M := []) (Nat.le_refl _) hk names4 h names4_ab I
  have hlh2 := I2.heapLen
  unfold sgS
  refine ex_expr (evs_meth (μ₂ := (a, (heaps w h names4).map Ru.av) :: (l, lg) :: μ) (a := .own l) (as := [.lst (names4.map fun n => .int (fst1 (takers (w.map Rl.pr) n)))]) (by dictfold_shaped) (isOf_list (LstAt.own (.tail _ (.head _)))) m_append (evl_cons ?_ evl_nil) (ca_append (.tail _ (.head _)) (.tail .head) (by unfold sizeLine; lia))) ?_ hI
  · refine ev_of_evn (evn_comp (tl := false) (as := names4.map .str) S_fst [("name", .un), ("heap", .own a)] (evi_tup (show EvD C _ _ _ (.tup [.str [], .str [97], .str [94, 97], .str [33, 92, 97]]) from (by dictfold_shaped))) (by decide +kernel) rfl (by sl_keep) (by simp [names4]; unfold sizeLine; decide) fun C' hd' => ?_)
    exact (crun_first (by room) hk names4 h names4_ab I).1
  generalize hg : heaps w h names4 = g at *
  refine ex_expr (evs_meth (μ₂ := (a, []) :: (l, lg ++ [.lst (names4.map fun n => .int (fst1 (takers (w.map Rl.pr) n)))]) :: μ) (a := .own l) (as := [.lst (w.map fun p => .int p.n)]) (by dictfold_shaped) (isOf_list (LstAt.own (.tail _ (.head _)))) m_append (evl_cons ?_ evl_nil) (ca_append (.tail _ (.head _)) (.tail .head) (by unfold sizeLine; simp; lia))) ?_ hI
  · refine ev_of_evn (evn_comp (tl := false) (as := rngs 0 1 g.length) S_pop [("k", .un), ("heap", .own a)]
      (evi_rng (n := g.length) (evs_call (by dictfold_shaped) (evl_cons (a := .int (g.length : Nat)) (evs_call (as := [.own a]) (by dictfold_shaped) (by dictfold_shaped) (by dictfold_shaped2) (ca_len (LstAt.own (.head _)) (by simp) (by room)) (fun _ _ => rfl)) evl_nil) (by dictfold_shaped2) ca_range1 (fun _ _ => rfl)) (rng_small (by room) (by room)) (size01 (by room))) (by decide +kernel) rfl (by sl_keep) (by simp; unfold sizeLine; lia) fun C' hd' => ?_)
    exact crun_pop (by room) hk w _ g (by rw [rngs_nat]; simp; exact hlh2) I2
  refine ex_freezeAt (Rm.tail Rm.head) (by sl_close) (FzM.refl _ _ _) ?_
  refine ex_ret (by dictfold_shaped) ⟨?_, .cons _ (List.Sublist.refl _)⟩
  simp [pend, Rl.pr]
end
end
section
section
variable {T : TopCx} {S : FnS} {C : Cx T S} {σ σ' : Sig} {μ μ' : Sto} {a : Addr} {a' : AV}
theorem Inv.nd2 {x0 : Ru} {r : List Ru} {w : List Rl} {k x : Nat} (I : Inv (x0 :: r) w k) : (((rl x k).ru :: r).map (·.n)).Nodup := by
  have h := I.ndx (x := x)
  have hp : ((x0 :: r) ++ [(rl x k).ru]).Perm ((rl x k).ru :: x0 :: r) := List.perm_append_comm
  have h2 := ((hp.map (·.n)).nodup_iff).mp h
  exact ((((List.sublist_cons_self x0 r).cons₂ (rl x k).ru)).map _).nodup h2
theorem pstep_lt {row : List Pr} {k x : Nat} (h : x % 8 < 3) : pstep row k x = (.none, pput row (prule x k)) := by
  unfold pstep
  rw [if_neg (by room), if_neg (by room), if_neg (by room), if_neg (by room), if_neg (by room)]
set_option maxHeartbeats 4000000 in
theorem fn_store {d : Nat} {ds : List Nat} (hd1 : 10 ≤ d) (hds : ∀ x ∈ ds, x < 2 ^ 40) (hl : ds.length ≤ 100) :
    Fn T (.ref 197) (d + 1) [.lst (ds.map fun (n : Nat) => .int n)] μ (.lst ((prun ds 0 []).1 ++ pend (prun ds 0 []).2)) μ := by
  refine fn_intro (S := S_store) (σ₀ := [("deeds", .lst (ds.map fun (n : Nat) => .int n)), ("heap", .un), ("log", .un), ("number", .un), ("x", .un), ("kind", .un), ("text", .un), ("rule", .un), ("answer", .un)]) (i := 31) (params := ["deeds"]) (by decide) (by decide +kernel) rfl (by simp) rfl fun nd C hC hI => ?_
  have hdC := Nat.le_trans hd1 (Nat.le_of_eq hC.symm)
  refine ex_assignN (evn_list evl_nil) (fun a => (by dictfold_puts)) fun a => ?_
  refine ex_assignN (evn_list evl_nil) (fun l => (by dictfold_puts)) fun l => ?_
  refine ex_perm (List.Perm.swap _ _ _) ?_
  refine ex_for (as := (List.range' 0 ds.length).map fun (i : Nat) => .int i) (WSt ds l μ)
    (by
      have h : rngs 0 1 ds.length = (List.range' 0 ds.length).map fun (i : Nat) => .int i := by rw [rngs_nat, List.range_eq_range']
      rw [← h]
      exact evi_rng (n := ds.length) (evs_call (by dictfold_shaped) (evl_cons (a := .int (ds.length : Nat)) (evs_call (by dictfold_shaped) (by dictfold_shaped) (by dictfold_shaped2) (ca_lenm (LstAt.lst _) (by room)) (fun _ _ => rfl)) evl_nil) (by dictfold_shaped2) ca_range1 (fun _ _ => rfl)) (rng_small (by room) (by room)) (size01 (by room))) ?_ ?_ ?_
  · exact ⟨0, [], ds, [], [], a, [], _, _, _, _, _, _, rfl, rfl, rfl, Inv.nil, rfl, rfl, rfl⟩
  · rintro a0 as σ μ₁ ⟨k, pre, xs, h, w, a, lg, v1, v2, v3, v4, v5, v6, has, hds', hpre, I, hlg, h1, h2⟩
    cases xs with
    | nil => cases has
    | cons x xs =>
      rw [List.length_cons, List.range'_succ, List.map_cons] at has
      cases has
      have hx : x < 2 ^ 40 := hds x (by rw [hds']; simp)
      have hk : k < 100 := by rw [hds'] at hl; simp at hl; lia
      have hget : ds[k]? = some x := by rw [hds']; simp [← hpre]
      have hlh := I.heapLen
      have hlw := I.len
      have hlg2 : lg.length < 1000 := by room
      have fin : ∀ {K : AF → Sig → Sto → Prop} (ans v5 : AV) (a : Addr) (h' : List Ru) (w' : List Rl), ans.isUn = false → pstep (w.map Rl.pr) k x = (ans, w'.map Rl.pr) → Inv h' w' (k + 1) → (∀ σ μ₁, WSt ds l μ ((List.range' (k + 1) xs.length).map fun (i : Nat) => AV.int i) σ μ₁ → K .next σ μ₁) →
          Ex C ((forB 31 2).drop 5) (sgS ds a l (.int k) (.int x) (.int ((x % 8 : Nat) : Int)) (.str (txt x)) v5 ans) ((a, h'.map Ru.av) :: (l, lg) :: μ) K := fun ans v5 a h' w' hu hp I' hK =>
        store_tail hI hu I' (by room) hlg2 (hK _ _ ⟨k + 1, pre ++ [x], xs, h', w', a, _, _, _, _, _, _, _, rfl, by simp [hds'], by simp [hpre], I', by simp [hlg], by
          rw [← h1]
          simp [prun, hp], by
          rw [← h2]
          simp [prun, hp]⟩)
      unfold sgS
      refine asg_name (by dictfold_puts) ?_
      refine store_head (by room) hx (by room) (by room) hget ?_
      unfold sgS at fin ⊢
      have hkb : x % 8 < 8 := Nat.mod_lt _ (by decide)
      have hprl : prule x k = (rl x k).pr := rfl
      refine ex_if (b := decide (x % 8 < 3)) (evt_cmp (by dictfold_shaped) (by dictfold_shaped) (cmp_ltN (n := 3)) rfl) (fun q => ?_) fun q => ?_
      · have hq : x % 8 < 3 := of_decide_eq_true q
        refine ex_assign (a := .none) (evs_call (as := [.own a, (rl x k).ru.av]) (by dictfold_shaped) (by dictfold_shaped) (by dictfold_shaped2) (by
          have := ca_fn (C := C) (σ := [("deeds", .lst (ds.map fun (n : Nat) => .int n)), ("heap", .own a), ("log", .own l), ("number", .int k), ("x", .int x), ("kind", .int ((x % 8 : Nat) : Int)), ("text", .str (txt x)), ("rule", (rl x k).ru.av), ("answer", v6)]) (fn_heappush (T := T) (a := a) (μ := (a, h.map Ru.av) :: (l, lg) :: μ) (d := 4) (x := (rl x k).ru) (by room) I.ndx (by room) (by unfold sizeLine; lia) (.head _)) (by room)
          rw [upd_hd] at this
          exact this) (fun _ _ => rfl)) (by dictfold_puts) (ex_nil ?_)
        exact fin _ _ _ _ _ rfl (by rw [pstep_lt hq, rput_pr]; rfl) I.push fun σ μ₁ h => h
      refine ex_if (b := decide (x % 8 < 5)) (evt_cmp (by dictfold_shaped) (by dictfold_shaped) (cmp_ltN (n := 5)) rfl) (fun q2 => ?_) fun q2 => ?_
      · have hq : ¬ x % 8 < 3 := of_decide_eq_false q
        have hq2 : x % 8 < 5 := of_decide_eq_true q2
        cases h with
        | nil =>
          have hw := I.nil_w
          subst hw
          refine ex_assign (a := .int (-1)) (evs_call (as := [.own a, .int ((x % 8 : Nat) : Int), (rl x k).ru.av]) (by dictfold_shaped) (by dictfold_shaped) (by dictfold_shaped2) (ca_fn (fn_out_empty (d := 4) (by room) (.head _) rfl) (by room)) (fun _ _ => rfl)) (by dictfold_puts) (ex_nil (ex_nil ?_))
          exact fin _ _ _ [] [] rfl (by rcases (by lia : x % 8 = 3 ∨ x % 8 = 4) with e | e <;> simp [pstep, e]) I.next fun σ μ₁ h => h
        | cons y r =>
          obtain ⟨q0, w', rfl, rfl⟩ := I.head
          simp only [List.length_cons] at hlh hlw
          rcases (by lia : x % 8 = 3 ∨ x % 8 = 4) with e | e
          · refine ex_assign (a := .int q0.n) (evs_call (as := [.own a, .int ((x % 8 : Nat) : Int), (rl x k).ru.av]) (by dictfold_shaped) (by dictfold_shaped) (by dictfold_shaped2) (by
              have := ca_fn (C := C) (σ := [("deeds", .lst (ds.map fun (n : Nat) => .int n)), ("heap", .own a), ("log", .own l), ("number", .int k), ("x", .int x), ("kind", .int ((x % 8 : Nat) : Int)), ("text", .str (txt x)), ("rule", (rl x k).ru.av), ("answer", v6)]) (fn_out_pop (T := T) (a := a) (μ := (a, (q0.ru :: r).map Ru.av) :: (l, lg) :: μ) (d := 5) (rule := (rl x k).ru.av) (by room) I.ndh (by room) (by unfold sizeLine; lia) (.head _)) (by room)
              rw [upd_hd] at this
              have e3 : ((x % 8 : Nat) : Int) = 3 := by room
              rw [e3] at this ⊢
              exact this) (fun _ _ => rfl)) (by dictfold_puts) (ex_nil (ex_nil ?_))
            exact fin _ _ _ _ w' rfl (by simp [pstep, e]; rfl) I.pop.next fun σ μ₁ h => h
          · refine ex_assign (a := .int q0.n) (evs_call (as := [.own a, .int ((x % 8 : Nat) : Int), (rl x k).ru.av]) (by dictfold_shaped) (by dictfold_shaped) (by dictfold_shaped2) (by
              have := ca_fn (C := C) (σ := [("deeds", .lst (ds.map fun (n : Nat) => .int n)), ("heap", .own a), ("log", .own l), ("number", .int k), ("x", .int x), ("kind", .int ((x % 8 : Nat) : Int)), ("text", .str (txt x)), ("rule", (rl x k).ru.av), ("answer", v6)]) (fn_out_repl (T := T) (a := a) (μ := (a, (q0.ru :: r).map Ru.av) :: (l, lg) :: μ) (d := 5) (y := (rl x k).ru) (by room) I.nd2 (by room) (.head _)) (by room)
              rw [upd_hd] at this
              have e3 : ((x % 8 : Nat) : Int) = 4 := by room
              rw [e3] at this ⊢
              exact this) (fun _ _ => rfl)) (by dictfold_puts) (ex_nil (ex_nil ?_))
            exact fin _ _ _ _ (rput w' (rl x k)) rfl (by rw [rput_pr]; simp [pstep, e]; exact ⟨rfl, rfl⟩) I.repl fun σ μ₁ h => h
      refine ex_if (b := decide (x % 8 = 5)) (evt_cmp (by dictfold_shaped) (by dictfold_shaped) (cmp_eqN (n := 5)) rfl) (fun q3 => ?_) fun q3 => ?_
      · have h5 : x % 8 = 5 := of_decide_eq_true q3
        obtain ⟨q0, w', e1, e2, I'⟩ := I.pp (x := x)
        refine ex_assign (a := .int q0.n) (evs_item (a := (hpp h (rl x k).ru).1.av) (evs_call (as := [.own a, (rl x k).ru.av]) (by dictfold_shaped) (by dictfold_shaped) (by dictfold_shaped2) (by
          have := ca_fn (C := C) (σ := [("deeds", .lst (ds.map fun (n : Nat) => .int n)), ("heap", .own a), ("log", .own l), ("number", .int k), ("x", .int x), ("kind", .int ((x % 8 : Nat) : Int)), ("text", .str (txt x)), ("rule", (rl x k).ru.av), ("answer", v6)]) (fn_heappushpop (T := T) (a := a) (μ := (a, h.map Ru.av) :: (l, lg) :: μ) (d := 4) (x := (rl x k).ru) (by room) I.ndx (by room) (.head _)) (by room)
          rw [upd_hd] at this
          exact this) (fun _ _ => rfl)) (by dictfold_shaped) (by rw [e2]; exact itm_tup (nth_nat (i := 1) rfl) (by show 3 < 2 ^ 62; decide))) (by dictfold_puts) (ex_nil (ex_nil (ex_nil ?_)))
        refine fin _ _ _ _ w' rfl ?_ I' fun σ μ₁ h => h
        have e3 : pput (w.map Rl.pr) (prule x k) = q0.pr :: w'.map Rl.pr := by rw [hprl, ← rput_pr, e1]; rfl
        simp [pstep, h5, e3]
        rfl
      refine ex_if (b := decide (x % 8 = 6)) (evt_cmp (by dictfold_shaped) (by dictfold_shaped) (cmp_eqN (n := 6)) rfl) (fun q4 => ?_) fun q4 => ?_
      · have h6 : x % 8 = 6 := of_decide_eq_true q4
        obtain ⟨f1, f2⟩ := I.first (rd := rdOf w (nam x)) (rdOf_eq I.nd (nam x))
        refine ex_assign (a := .int (fst1 (takers (w.map Rl.pr) (nam x)))) (evs_call (as := [.own a, .str (nam x)]) (by dictfold_shaped) (evl_cons (by dictfold_shaped) (evl_cons (evs_call (by dictfold_shaped) (by dictfold_shaped) (by dictfold_shaped2) (ca_fn (fn_name (d := 4) hx) (by room)) (fun _ _ => rfl)) evl_nil)) (by dictfold_shaped2) (by
          have := ca_fn (C := C) (σ := [("deeds", .lst (ds.map fun (n : Nat) => .int n)), ("heap", .own a), ("log", .own l), ("number", .int k), ("x", .int x), ("kind", .int ((x % 8 : Nat) : Int)), ("text", .str (txt x)), ("rule", (rl x k).ru.av), ("answer", v6)]) (fn_first (T := T) (a := a) (μ := (a, h.map Ru.av) :: (l, lg) :: μ) (d := 6) (rd := rdOf w (nam x)) (by room) (I.rd (nam_ab x)) I.ndh (by room) (by have := nam_len x; lia) (.head _)) (by room)
          rw [upd_hd, f1] at this
          exact this) (fun _ _ => rfl)) (by dictfold_puts) (ex_nil (ex_nil (ex_nil (ex_nil ?_))))
        exact fin _ _ _ _ w rfl (by simp [pstep, h6]) f2.next fun σ μ₁ h => h
      · have h7 : x % 8 = 7 := by simp at q q2 q3 q4; lia
        refine ex_freeze (σ' := [("deeds", .lst (ds.map fun (n : Nat) => .int n)), ("heap", .lst (h.map Ru.av)), ("log", .own l), ("number", .int k), ("x", .int x), ("kind", .int ((x % 8 : Nat) : Int)), ("text", .str (txt x)), ("rule", (rl x k).ru.av), ("answer", v6)]) (by sl_close) (FzM.refl _ _ _) ?_
        refine ex_letCN (xs := (h.filter fun u => !(rdOf w (nam x) u)).map Ru.av) (μ₁ := (l, lg) :: μ) ?_ (fun b => (by dictfold_puts)) (fun b => ?_) (by decide)
        · refine evn_comp S_rd [("one", .un), ("x", .int x)] (evi_list (by dictfold_shaped)) (by decide +kernel) rfl (by sl_keep) (by have := List.length_filter_le (fun u => !(rdOf w (nam x) u)) h; simp; unfold sizeLine; lia) fun C' hd => ?_
          refine crun_map _ _ _ _ fun u hu => asg_local (by decide) (by dictfold_puts) ⟨rfl, .un (Wk.refl _), ?_, fun _ => (by dictfold_shaped)⟩
          obtain ⟨_, rs, hxr, hsm, hrl, hrd⟩ := I.rd (nam_ab x) u hu
          have hav : u.av = .tup [.int u.r, .int u.n, .lst (rs.list.map runAV)] := by unfold Ru.av; rw [hxr]
          rw [hav]
          exact evts_one (evt_not (evt_val (a := .bool (rdOf w (nam x) u)) (by
            rw [← hrd]
            exact evs_call (as := [.lst (rs.list.map runAV), .str (nam x)]) (by dictfold_shaped) (evl_cons (evs_item (a := .tup [.int u.r, .int u.n, .lst (rs.list.map runAV)]) (by dictfold_shaped) (by dictfold_shaped) (itm_tup (nth_nat (i := 2) rfl) (by show 3 < 2 ^ 62; decide))) (evl_cons (evs_call (by dictfold_shaped) (by dictfold_shaped) (by dictfold_shaped2) (ca_fn (fn_name (d := 4) hx) (by room)) (fun _ _ => rfl)) evl_nil)) (by dictfold_shaped2) (ca_fn (fn_reads (d := 4) (by room) hsm hrl (by have := nam_len x; lia)) (by room)) (fun _ _ => rfl)) tru_bool (fun _ => rfl)))
        · have hfl := List.length_filter_le (fun u => !(rdOf w (nam x) u)) h
          have If := I.filt (f := fun u => !(rdOf w (nam x) u))
          refine ex_assign (a := .none) (evs_call (as := [.own b]) (by dictfold_shaped) (by dictfold_shaped) (by dictfold_shaped2) (by
            have := ca_fn (C := C) (σ := [("deeds", .lst (ds.map fun (n : Nat) => .int n)), ("heap", .own b), ("log", .own l), ("number", .int k), ("x", .int x), ("kind", .int ((x % 8 : Nat) : Int)), ("text", .str (txt x)), ("rule", (rl x k).ru.av), ("answer", v6)]) (fn_heapify (T := T) (a := b) (μ := (b, (h.filter fun u => !(rdOf w (nam x) u)).map Ru.av) :: (l, lg) :: μ) (d := 4) (by room) ((List.filter_sublist.map _).nodup I.ndh) (by room) (.head _)) (by room)
            rw [upd_hd] at this
            exact this) (fun _ _ => rfl)) (by dictfold_puts) (ex_nil (ex_nil (ex_nil (ex_nil ?_))))
          refine fin _ _ _ _ (w.filter fun p => !(rdOf w (nam x) p.ru)) rfl ?_ If.next fun σ μ₁ h => h
          have e1 : (w.filter fun p => !(rdOf w (nam x) p.ru)) = w.filter fun p => !takes (p.ps.map (·.2)) (nam x) := by
            apply List.filter_congr
            intro p hp
            rw [rdOf_eq I.nd _ p hp]
          rw [e1, ← row_filt I.nd]
          simp [pstep, h7]
  · rintro σ μ₁ ⟨k, pre, xs, h, w, a, lg, v1, v2, v3, v4, v5, v6, has, hds', hpre, I, hlg, h1, h2⟩
    cases xs with
    | cons x xs => rw [List.length_cons, List.range'_succ, List.map_cons] at has; cases has
    | nil =>
      have hk : k ≤ 100 := by rw [hds'] at hl; simp at hl; lia
      have h1' : lg = (prun ds 0 []).1 := by simpa [prun] using h1
      have h2' : w.map Rl.pr = (prun ds 0 []).2 := h2
      refine ex_nil ?_
      rw [← h1', ← h2']
      exact store_end hI (by room) I (by room) (by room)
end
end
section
section
variable {T : TopCx} {S : FnS} {C : Cx T S} {σ σ' : Sig} {μ μ' : Sto}
noncomputable def Pl : Nat → AV → Prop
  | _, .none => True
  | _, .bool _ => True
  | _, .int _ => True
  | _, .str _ => True
  | n + 1, .tup ds => ∀ d ∈ ds, Pl n d
  | n + 1, .lst ds => ∀ d ∈ ds, Pl n d
  | _, _ => False
theorem vrs_at {h : Heap} {Z : Addr → Prop} : ∀ {vs : List Value} {ds : List AV}, VRs h Z vs ds → ∀ (j : Nat) (hj : j < vs.length), ∃ d ∈ ds, VR h Z vs[j] d ∧ ds[j]? = some d
  | _, _, .nil, j, hj => absurd hj (by simp)
  | _, _, .cons V r, 0, _ => ⟨_, .head _, V, rfl⟩
  | _, _, .cons V r, j + 1, hj => by
    obtain ⟨d, h1, h2, h3⟩ := vrs_at r j (by simpa using hj)
    exact ⟨d, .tail _ h1, h2, h3⟩
theorem vrs_two {h : Heap} {Z : Addr → Prop} {vs us : List Value} {ds : List AV} (r : VRs h Z vs ds) (t : VRs h Z us ds) {P : Value → Value → Prop} (hp : ∀ d ∈ ds, ∀ v u, VR h Z v d → VR h Z u d → P v u) :
    ∀ j (h1 : j < vs.toArray.size) (h2 : j < us.toArray.size), P vs.toArray[j] us.toArray[j] := fun j h1 h2 => by
  obtain ⟨d, hd, V, e⟩ := vrs_at r j (by simpa using h1)
  obtain ⟨d', hd', V', e'⟩ := vrs_at t j (by simpa using h2)
  rw [e] at e'
  cases e'
  simpa using hp d hd _ _ V V'
open PySem.SeqAt in
theorem eq_av {Z : Addr → Prop} : ∀ (n : Nat) (a : AV) (v w : Value) (A : Around) (s : Shared), Pl n a → VR s.heap Z v a → VR s.heap Z w a → A.units + 10 * n < cLine → EqAt A s v w true := by
  intro n
  have flat : ∀ (n : Nat) (a : AV) (v w : Value) (A : Around) (s : Shared), (∀ ds, a ≠ .tup ds) → (∀ ds, a ≠ .lst ds) → Pl n a → VR s.heap Z v a → VR s.heap Z w a → EqAt A s v w true := by
    intro n a v w A s h1 h2 hp V W
    cases a with
    | none => obtain rfl := V.inone; obtain rfl := W.inone; exact EqAt.same _
    | bool b => obtain rfl := V.ibool; obtain rfl := W.ibool; exact EqAt.same _
    | int x => obtain ⟨t, rfl⟩ := V.iint; obtain ⟨u, rfl⟩ := W.iint; have := EqAt.int_int (A := A) (s := s) x t x u; rwa [beq_self_eq_true] at this
    | str x => obtain ⟨t, rfl⟩ := V.istr; obtain ⟨u, rfl⟩ := W.istr; have := EqAt.str_str (A := A) (s := s) (stv x) t (stv x) u; rwa [beq_self_eq_true] at this
    | tup ds => exact absurd rfl (h1 ds)
    | lst ds => exact absurd rfl (h2 ds)
    | un => cases n <;> exact hp.elim
    | own => cases n <;> exact hp.elim
    | val => cases n <;> exact hp.elim
    | rng => cases n <;> exact hp.elim
    | app => cases n <;> exact hp.elim
  induction n with
  | zero =>
    intro a v w A s hp V W hu
    exact flat 0 a v w A s (fun ds e => by subst e; exact hp) (fun ds e => by subst e; exact hp) hp V W
  | succ n ih =>
    intro a v w A s hp V W hu
    by_cases ht : ∃ ds, a = .tup ds
    · obtain ⟨ds, rfl⟩ := ht
      obtain ⟨x, vs, m, rfl, z, e, r⟩ := V.itup
      obtain ⟨y, us, k, rfl, z2, e2, r2⟩ := W.itup
      by_cases hxy : x = y
      · subst hxy; exact EqAt.same _
      have hl := r.length
      have hl2 := r2.length
      have h := RcAt.tuples (A := A) (s := s) (l := x) (b := y) (items := vs.toArray) (items2 := us.toArray) (e := fun _ => true) ⟨_, e, rfl, _, rfl⟩ ⟨_, e2, rfl, _, rfl⟩ (by room)
        (vrs_two r r2 (P := fun v u => EqAt A.in1 s v u true) fun d hd v u V V' => ih d v u A.in1 s (hp d hd) V V' (by show _ + 1 + _ < _; lia))
      have hb : ((List.range (min vs.toArray.size us.toArray.size)).all (fun _ => true) && vs.toArray.size == us.toArray.size) = true := by simp; lia
      rw [hb] at h
      exact EqAt.of_refs hxy h
    · by_cases hl : ∃ ds, a = .lst ds
      · obtain ⟨ds, rfl⟩ := hl
        obtain ⟨x, vs, m, rfl, z, e, r⟩ := V.ilst
        obtain ⟨y, us, k, rfl, z2, e2, r2⟩ := W.ilst
        by_cases hxy : x = y
        · subst hxy; exact EqAt.same _
        have hl := r.length
        have hl2 := r2.length
        have h := RcAt.lists (A := A) (s := s) (l := x) (b := y) (items := vs.toArray) (items2 := us.toArray) (e := fun _ => true) ⟨_, e, rfl, _, rfl⟩ ⟨_, e2, rfl, _, rfl⟩ (by simp; lia) (by room)
          (vrs_two r r2 (P := fun v u => EqAt A.in1 s v u true) fun d hd v u V V' => ih d v u A.in1 s (hp d hd) V V' (by show _ + 1 + _ < _; lia))
        have hb : (List.range vs.toArray.size).all (fun _ => true) = true := by simp
        rw [hb] at h
        exact EqAt.of_refs hxy h
      · exact flat (n + 1) a v w A s (fun ds e => ht ⟨ds, e⟩) (fun ds e => hl ⟨ds, e⟩) hp V W
open PySem.SeqAt in
theorem cmp_eq_deep {n : Nat} {l : List AV} (hn : n ≤ 5) (hp : ∀ d ∈ l, Pl n d) : Cmp C .Eq (.lst l) (.lst l) σ μ true := ⟨fun ok B s Z v w R V W => by
  have hu := ok.units
  obtain ⟨x, vs, m, rfl, z, e, r⟩ := V.ilst
  obtain ⟨y, us, k, rfl, z2, e2, r2⟩ := W.ilst
  ·
      have hl := r.length
      have hl2 := r2.length
      refine eq_listAt (e := fun _ => true) (isList_of e) (isList_of e2) (by simp; lia) (by room) (vrs_two r r2 (P := fun v u => EqAt C.A.in1 s v u true) fun d hd v u V V' => eq_av n d v u C.A.in1 s (hp d hd) V V' (by show _ + 1 + _ < _; lia)) ?_
      have hb : (List.range vs.toArray.size).all (fun _ => true) = true := by simp
      rw [hb]
      exact PostS.mk0 R (.bool _)⟩
end
section
variable {T : TopCx} {μ : Sto}
theorem prun_pl : ∀ (xs : List Nat) (k : Nat) (row : List Pr), ∀ d ∈ (prun xs k row).1, Pl 2 d
  | [], _, _, d, hd => by simp [prun] at hd
  | x :: xs, k, row, d, hd => by
    simp only [prun, List.mem_cons] at hd
    rcases hd with rfl | hd
    · intro d hd
      simp only [List.mem_cons, List.not_mem_nil, or_false] at hd
      rcases hd with rfl | rfl | rfl
      · trivial
      · unfold pstep
        split
        · trivial
        · split
          · trivial
          · split
            · split <;> trivial
            · split
              · split <;> trivial
              · split
                · split <;> trivial
                · trivial
      · trivial
    · exact prun_pl xs (k + 1) _ d hd
theorem pend_pl (row : List Pr) : ∀ d ∈ pend row, Pl 2 d := by
  intro d hd
  simp only [pend, List.mem_cons, List.not_mem_nil, or_false] at hd
  rcases hd with rfl | rfl
  · intro d hd
    obtain ⟨_, _, rfl⟩ := List.mem_map.mp hd
    trivial
  · intro d hd
    obtain ⟨_, _, rfl⟩ := List.mem_map.mp hd
    trivial
noncomputable abbrev S_law : FnS := { names := [("script", false), ("deeds", false)], globs := [("_law_store", .ref 197), ("_law_plain", .ref 221)] }
noncomputable abbrev S_lawC : FnS := { names := [("x", false)], globs := [], ro := true }
noncomputable def deedOf (i : Int) : Nat := (i.fmod 1000000000).toNat
noncomputable def tailD : List Nat := [16, 232609, 234562, 4599942, 3709, 232604, 2299975]
set_option maxHeartbeats 1000000 in
theorem law_ex {C : Cx T S_law} (hd : 12 ≤ C.d) {ns : List Int} {sc : AV} (hu : sc.isUn = false) (hsl : ∀ {σ : Sig} {μ : Sto}, Slc C sc none (some 8) σ μ (.lst ((ns.take 8).map .int))) : Ex C (fbody 36) [("script", sc), ("deeds", .un)] μ (KRet (.bool true) μ) := by
  have hl8 : (ns.take 8).length ≤ 8 := List.length_take_le _ _
  let ds : List Nat := (ns.take 8).map deedOf ++ tailD
  have ed : ds.map (fun (n : Nat) => AV.int n) = (ns.take 8).map (fun i => AV.int (deedOf i : Nat)) ++ tailD.map fun (n : Nat) => AV.int n := by simp [ds, Function.comp_def]
  have hds : ∀ x ∈ ds, x < 2 ^ 40 := fun x hx => by
    rcases List.mem_append.mp hx with hx | hx
    · obtain ⟨i, _, rfl⟩ := List.mem_map.mp hx
      unfold deedOf
      rw [Int.fmod_eq_emod_of_nonneg _ (by decide)]; lia
    · have : ∀ x ∈ tailD, x < 2 ^ 40 := by decide
      exact this x hx
  have hdl : ds.length ≤ 100 := by simp [ds, tailD]; lia
  refine ex_let (a := .lst (ds.map fun (n : Nat) => .int n)) ?_ (by dictfold_puts) ?_
  · rw [ed]
    refine evs_bin (a := .lst ((ns.take 8).map fun i => AV.int (deedOf i : Nat))) (b := .lst (tailD.map fun (n : Nat) => AV.int n)) (μ₁ := μ) (ev_of_evn ?_) (show EvD C _ _ _ (.lst [.int 16, .int 232609, .int 234562, .int 4599942, .int 3709, .int 232604, .int 2299975]) from (by dictfold_shaped)) (op_addl (LstAt.lst _) (LstAt.lst _) (by simp [tailD]; unfold sizeLine; lia))
    refine evn_comp S_lawC [("x", .un)] (as := (ns.take 8).map .int) (evi_list (evs_slice (a := sc) (ev_name (by dictfold_has) hu) evo_none (evo_some (by dictfold_shaped)) hsl)) (by decide +kernel) rfl (by sl_keep) (by simp; unfold sizeLine; lia) fun C' hd => ?_
    refine crun_all _ _ _ fun i hi => asg_local (by decide) (by dictfold_puts) ⟨rfl, .un .nil, ?_⟩
    have e : AV.int (deedOf i : Nat) = .int (i.fmod 1000000000) := by
      unfold deedOf
      rw [Int.fmod_eq_emod_of_nonneg _ (by decide), Int.toNat_of_nonneg (by room)]
    rw [e]
    refine evs_bin (b := .int 1000000000) (by dictfold_shaped) (evs_bin (c := .int 1000000000) (by dictfold_shaped) (by dictfold_shaped) (op_pow (i := 10) (j := 9) (by decide) (by decide) (by decide))) (op_mod (by decide))
  · have hpl : ∀ d ∈ (prun ds 0 []).1 ++ pend (prun ds 0 []).2, Pl 2 d := fun d hd => by
      rcases List.mem_append.mp hd with h | h
      · exact prun_pl _ _ _ d h
      · exact pend_pl _ d h
    exact ex_ret (a := .bool true) (evs_cmp (a := .lst ((prun ds 0 []).1 ++ pend (prun ds 0 []).2)) (b := .lst ((prun ds 0 []).1 ++ pend (prun ds 0 []).2)) (evs_call (by dictfold_shaped) (by dictfold_shaped) (by dictfold_shaped2) (ca_fn (fn_store (d := 10) (by room) hds hdl) (by room)) (fun _ _ => rfl)) (evs_call (by dictfold_shaped) (by dictfold_shaped) (by dictfold_shaped2) (ca_fn (fn_plain (d := 10) (by room) hds hdl) (by room)) (fun _ _ => rfl)) (cmp_eq_deep (n := 2) (by decide) hpl) rfl) ⟨rfl, List.Sublist.refl _⟩
end
section
variable {T : TopCx}
theorem ints_vrs {h : Heap} {Z : Addr → Prop} : ∀ {vs : List Value} {ns : List Int}, IntsAre vs ns → VRs h Z vs (ns.map .int)
  | _, _, .nil => .nil
  | _, _, .cons n t r => .cons (.int n t) (ints_vrs r)
theorem slc_top {S : FnS} {C : Cx T S} {σ : Sig} {μ : Sto} {w : Addr} {vs : List Value} {ns : List Int} (hL : T.hb.IsList w vs.toArray) (hi : IntsAre vs ns) (hl : ns.length < 1000) : Slc C (.val (.ref w)) none (some 8) σ μ (.lst ((ns.take 8).map .int)) := ⟨fun ok B s Z v vl vu value slice R V pl pu hs => by
  obtain rfl := V.ival
  have r : VRs s.heap Z vs (ns.map .int) := ints_vrs hi
  have hlen := r.length
  have hL1 : s.heap.IsList w vs.toArray := by
    obtain ⟨o, ho, q⟩ := hL
    exact ⟨o, R.top _ _ ho, q⟩
  have hL2 : Heap.IsList (s.heap.push { cls := .type "slice", data := .fields #[vl, vu, .none] }) w vs.toArray := hL1.push _
  refine tail_any hL2.typeIs list_getitem_lookup (wpAny_getItem_list_slice hL2 (Heap.IsSliceOf.new ..) pl pu .none (by simp) ?_ (by simp at hlen ⊢; unfold sizeLine; lia)) (hs _ _)
  rw [slicePick_eq]
  have R₁ := (R.push { cls := .type "slice", data := .fields #[vl, vu, .none] }).pushZ ok.top (listOf (slc vs none (some 8)).toArray 0)
  have e8 : slc (ns.map AV.int) none (some 8) = (ns.take 8).map AV.int := by
    have h := clip_nat (ns.map AV.int).length 8
    unfold slc slo shi
    simp only [Option.elim]
    have h2 : clipAt (ns.map AV.int).length 8 = min 8 (ns.map AV.int).length := h
    rw [h2, List.map_take]
    simp [List.take_eq_take_iff]
  refine ⟨_, R₁, (le_push _ _ _).trans (le_pushZ _ _ _ _), .lst (.inr rfl) (Heap.get?_push_size _ rfl) ?_⟩
  rw [← e8]
  exact (r.slc none (some 8)).mono ((le_push _ _ _).trans (le_pushZ _ _ _ _))⟩
end
end
section
theorem law_run {T : TopCx} (tok : TopOk T) {L a w : Addr} {cd : Value} {nm : Str} {s : Shared} {m : Str → Option Value} {vs : List Value} {ns : List Int} (F : Fr T.hb L s.heap m) (hm : m (Str.ofString "script") = some (.ref w)) (ht : s.heap.get? tabA = some (tabObj #[])) (hLt : L ≠ tabA) (hos : s.os = T.os)
    (hg : AllBare s.gens) (htk : 0 < s.toks) (hL : T.hb.IsList w vs.toArray) (hi : IntsAre vs ns) (hn : ns.length < 1000) {Q : Flow → Shared → Prop} {E : Value → Shared → Prop}
    (h : ∀ s', (∀ b o, T.hb.get? b = some o → s'.heap.get? b = some o) → (∃ ps, s'.heap.get? tabA = some (tabObj ps)) → s'.os = T.os → AllBare s'.gens → Q (.ret (.bool true)) s') :
    wpAny (Md T) (callerA.deeper (envOf nm (fscope 36) L a cd)) (execs (fbody 36) (envOf nm (fscope 36) L a cd)) Q E s := by
  let C : Cx T S_law := ⟨callerA.deeper (envOf nm (fscope 36) L a cd), envOf nm (fscope 36) L a cd, 12⟩
  have SC := scOk_of (S' := S_law) (scope := fscope 36) (by decide +kernel)
  have hLn : T.hb.get? L = none := none_of_le F.above
  have ok : C.Ok := {
    top := tok
    hh := rfl
    depth := by show callerA.depth + 1 + 12 < recursionLimit; decide +kernel
    units := by show callerA.units + 3 + 20 * 12 + 100 < cLine; decide +kernel
    kind := SC.kind
    glob := rfl
    blt := rfl
    names := fun p hp => by
      refine ⟨(SC.names p hp).1, fun e => ?_⟩
      simp at hp
      rcases hp with rfl | rfl <;> cases e
    nd := SC.nd
    globs := fun p hp => ⟨SC.globs p hp, tok.gl p (by
      simp at hp
      rcases hp with rfl | rfl <;> decide)⟩
    inj := fun x y c e1 e2 => by cases e1
    dbgN := SC.dbgN
    dbgG := SC.dbgG }
  let B : Base := ⟨T.hb, fun _ => False, fun _ => False⟩
  have R : Rp C B s (fun _ => False) [("script", .val (.ref w)), ("deeds", .un)] [] := {
    top := F.keep
    tab := ⟨#[], ht, by simp [TriplesOk]⟩
    os := hos
    gens := hg
    keep := fun b o e _ _ => ⟨o, F.keep b o e, .refl o⟩
    z0 := fun _ z => z
    zn := fun _ z => z.elim
    zok := fun _ z => z.elim
    own := fun p hp => by cases hp
    nd := by simp
    tk := htk
    keys := rfl
    frs := ⟨[envOf nm (fscope 36) L a cd], rfl, fun env he => by
      rw [List.mem_singleton] at he
      subst he
      exact ⟨by show (fscope 36).kind ≠ .module; rw [SC.kind]; decide, L, rfl, hLn, .inl rfl⟩⟩
    loc := ⟨⟨hLn, hLt⟩, fun z => z, (fun p hp => by cases hp), .inr hLn⟩
    ns := ⟨m, F.ns, fun x b h1 h2 => by
      simp only [List.mem_cons, Prod.mk.injEq, List.not_mem_nil, or_false] at h1
      rcases h1 with ⟨rfl, rfl⟩ | ⟨rfl, rfl⟩
      · exact .inr ⟨_, hm, .val _⟩
      · exact .inl rfl⟩
    cel := fun x c e => by cases e }
  refine wpAny_mono ((law_ex (T := T) (μ := []) (C := C) (Nat.le_refl _) (sc := .val (.ref w)) rfl (slc_top hL hi hn)).run ok B s _ R) ?_ fun _ _ x => x.elim
  rintro fl s' ⟨Z', σ', μ'', f', R', L', F', k⟩
  cases F' with
  | next => obtain ⟨q, _⟩ := k; cases q
  | brk => exact k.elim
  | cont => exact k.elim
  | ret V' =>
    obtain ⟨rfl, _⟩ := k
    cases V'
    exact h s' R'.top (let ⟨ps, e, _⟩ := R'.tab; ⟨ps, e⟩) R'.os R'.gens
end
section
noncomputable def glIn (K : Frag) (p : Str × Value) : Bool := match nsIn K mainGlobals p.1 with
  | some (some v) => decide (v = p.2)
  | some none => decide (bootBuiltins p.1 = some p.2) && !(p.1 == ("__name__" : Str))
  | none => false
theorem len1 {vs : List Value} (h : vs.length = 1) : ∃ a, vs = [a] := List.length_eq_one_iff.mp h
theorem len2 {vs : List Value} (h : vs.length = 2) : ∃ a b, vs = [a, b] := by
  obtain ⟨a, l, rfl⟩ : ∃ a l, vs = a :: l := by cases vs with | nil => cases h | cons a l => exact ⟨a, l, rfl⟩
  obtain ⟨b, rfl⟩ := len1 (vs := l) (by simpa using h)
  exact ⟨a, b, rfl⟩
theorem len3 {vs : List Value} (h : vs.length = 3) : ∃ a b c, vs = [a, b, c] := by
  obtain ⟨a, l, rfl⟩ : ∃ a l, vs = a :: l := by cases vs with | nil => cases h | cons a l => exact ⟨a, l, rfl⟩
  obtain ⟨b, c, rfl⟩ := len2 (vs := l) (by simpa using h)
  exact ⟨a, b, c, rfl⟩
theorem bind0 {fd : FuncData} {ps : List Str} (h0 : ps.length = 0) (h : bindArgs fd ⟨[], []⟩ = pure (ps.zip [])) : ∀ vs : List Value, vs.length = ps.length → bindArgs fd ⟨vs, []⟩ = pure (ps.zip vs) := fun vs hv => by
  rw [h0] at hv
  have : vs = [] := by simpa using hv
  subst this
  exact h
theorem bind1 {fd : FuncData} {ps : List Str} (h0 : ps.length = 1) (h : ∀ a, bindArgs fd ⟨[a], []⟩ = pure (ps.zip [a])) : ∀ vs : List Value, vs.length = ps.length → bindArgs fd ⟨vs, []⟩ = pure (ps.zip vs) := fun vs hv => by
  obtain ⟨a, rfl⟩ := len1 (hv.trans h0)
  exact h a
theorem bind2 {fd : FuncData} {ps : List Str} (h0 : ps.length = 2) (h : ∀ a b, bindArgs fd ⟨[a, b], []⟩ = pure (ps.zip [a, b])) : ∀ vs : List Value, vs.length = ps.length → bindArgs fd ⟨vs, []⟩ = pure (ps.zip vs) := fun vs hv => by
  obtain ⟨a, b, rfl⟩ := len2 (hv.trans h0)
  exact h a b
theorem bind3 {fd : FuncData} {ps : List Str} (h0 : ps.length = 3) (h : ∀ a b c, bindArgs fd ⟨[a, b, c], []⟩ = pure (ps.zip [a, b, c])) : ∀ vs : List Value, vs.length = ps.length → bindArgs fd ⟨vs, []⟩ = pure (ps.zip vs) := fun vs hv => by
  obtain ⟨a, b, c, rfl⟩ := len3 (hv.trans h0)
  exact h a b c
noncomputable def esOf (K : Frag) (a : Addr) : Array DictEntry := match K.lookup a with
  | some ⟨_, _, .dict es _, _⟩ => es
  | _ => #[]
noncomputable def enOf (K : Frag) (a : Addr) : Nat := match K.lookup a with
  | some ⟨_, _, .dict _ n, _⟩ => n
  | _ => 0
noncomputable def keyOk (e : DictEntry) : Bool := match e.key with
  | .int k _ => decide (e.hash = hashInt k)
  | _ => false
noncomputable def valIs (o : Option Value) (x : Str) : Bool := match o with
  | some (.str y _) => decide (y = x)
  | _ => false
theorem valIs_of {o : Option Value} {x : Str} (h : valIs o x = true) : ∃ t, o = some (.str x t) := by
  unfold valIs at h
  split at h
  · rename_i y t
    have : y = x := of_decide_eq_true h
    subst this
    exact ⟨t, rfl⟩
  · cases h
noncomputable def fnm (i : Nat) : Str := match PySem.Challenge.pw_in0305_01.main.body.getD i default with
  | .FunctionDef n .. => n
  | _ => default
noncomputable def dOf (q : Program) (i : Nat) : DefRec := ((recsOf q).find? fun d => d.name == fnm i).getD ⟨fnm i, default, [], default, default⟩
structure DefK (K : Frag) (q : Program) (f : Addr) (i : Nat) (params : List Str) : Prop where
  look : ((recsOf q).find? fun d => d.name == fnm i) = some (dOf q i)
  at_ : nsIn K mainGlobals (dOf q i).name = some (some (.ref f))
  body : (dOf q i).body = fbody i
  scope : (dOf q i).scope = fscope i
  bind : ∀ (pm code doc : Value) (vs : List Value), vs.length = params.length → bindArgs (docDef (dOf q i).name (dOf q i).params (dOf q i).body (dOf q i).scope pm code doc) ⟨vs, []⟩ = pure (params.zip vs)
structure TopK (K : Frag) (q : Program) : Prop where
  gl : Gl.all (glIn K) = true
  fns : ∀ p ∈ FL, DefK K q p.1 p.2.1 p.2.2
  bm : nsIn K mainGlobals "__builtins__" = some (some (.ref 4))
  map : K.lookup 45 = some ⟨.type "dict", none, .dict (esOf K 45) (enOf K 45), #[]⟩
  keys : (esOf K 45).toList.all keyOk = true
  m94 : valIs (findBy Value.isInt (esOf K 45) 94) (stv [92, 94]) = true
  m92 : valIs (findBy Value.isInt (esOf K 45) 92) (stv [92, 92]) = true
  m97 : findBy Value.isInt (esOf K 45) 97 = none
  m33 : findBy Value.isInt (esOf K 45) 33 = none
  pat : K.lookup 36 = some { cls := .type "re.Pattern", data := .fields #[.str (Str.ofString "([&~|])") 285, .int 32 320, .int 1 0, .none, .none, .ref 35, .int 0 0] }
  pcode : K.lookup 35 = some (tupOf #[.int 14 0, .int 14 0, .int 4 0, .int 1 0, .int 1 0, .int 9 0, .int 0 0, .int 64 0, .int 0 0, .int 1342177280 0, .int 0 0, .int 0 0, .int 0 0,
    .int 0 0, .int 0 0, .int 17 0, .int 0 0, .int 13 0, .int 11 0, .int 9 0, .int 0 0, .int 64 0, .int 0 0, .int 1342177280 0, .int 0 0, .int 0 0, .int 0 0, .int 0 0, .int 0 0, .int 17 0, .int 1 0, .int 1 0] 0)
noncomputable def FnsAt (q : Program) (mg : Str → Option Value) (h : Heap) : Prop := ∀ d ∈ recsOf q, ∃ a o pm code doc, mg d.name = some (.ref a) ∧ h.get? a = some o ∧ o.data = .func (docDef d.name d.params d.body d.scope pm code doc) ∧ h.CodeRec code d.name
theorem topOk_of {T : TopCx} {K : Frag} {q : Program} (k : TopK K q) (X : K.In T.hb) (fn : FnsAt q T.mg T.hb) (h62 : c62 T.hb = some (.ref codeA)) (g : T.hb.Ns mainGlobals T.mg) (b : T.hb.Ns builtinsNs T.mb) (bt : ∀ x : Str, x ≠ "__name__" → T.mb x = bootBuiltins x) (nl : T.hb.NoLimit) (nt : T.hb.get? tabA = none) (chd : CodeHd T.hb codeA tabA)
    (hbm : ∃ bm ob, T.mg "__builtins__" = some (.ref bm) ∧ bm ≠ builtinsNs ∧ T.hb.get? bm = some ob ∧ ob.cls = .type "module" ∧ ob.dict = some builtinsNs ∧ ob.data = .plain) : TopOk T where
  gl := fun p hp => by
    have h := List.all_eq_true.mp k.gl p hp
    unfold glIn at h
    split at h
    · rename_i v hv
      have e : v = p.2 := of_decide_eq_true h
      subst e
      exact .inl (mg_of X g hv)
    · rename_i hv
      rw [Bool.and_eq_true] at h
      refine .inr ⟨mg_none_of X g hv, (bt _ fun e => ?_).trans (of_decide_eq_true h.1)⟩
      rw [e] at h
      exact absurd h.2 (by decide)
    · cases h
  fns := fun p hp => by
    have f := k.fns p hp
    obtain ⟨a, o, pm, code, doc, h1, h2, h3, h4⟩ := fn _ (List.mem_of_find?_eq_some f.look)
    have e := mg_of X g f.at_
    rw [h1] at e
    cases e
    exact ⟨_, ⟨o, h2, h3⟩, h4, by show FuncBody.stmts _ = _; rw [f.body], f.scope, rfl, rfl, rfl, f.bind pm code doc⟩
  g := g
  b := b
  nolimit := nl
  notab := nt
  code := by
    unfold c62 at h62
    split at h62
    · rename_i cl d fd sl ho
      exact ⟨_, fd, ho, rfl, Option.some.inj h62⟩
    · cases h62
  chd := chd
  bat := by
    obtain ⟨bm, ob, h1, h2, h3, h4, h5, h6⟩ := hbm
    have e := mg_of X g k.bm
    rw [h1] at e
    cases e
    exact ⟨4, ob, h1, h2, by decide, by decide, h3, h4, h5, h6⟩
  mgt := by decide
  map := by
    refine ⟨fun i => findBy Value.isInt (esOf K 45) i, ⟨_, esOf K 45, _, X _ _ k.map, ⟨rfl, rfl, rfl⟩, rfl, fun e he => ?_, fun _ => rfl⟩, valIs_of k.m94, valIs_of k.m92, k.m97, k.m33⟩
    have h := List.all_eq_true.mp k.keys e (by simpa using he)
    unfold keyOk at h
    split at h
    · rename_i i t hk
      exact ⟨i, by rw [hk]; show Value.isInt i (.int i t) = true; simp [Value.isInt], of_decide_eq_true h⟩
    · cases h
  pat := X _ _ k.pat
  pcode := X _ _ k.pcode
theorem fns_ghost {tabs : List (Addr × Addr)} {h : Heap} {q : Program} {mg : Str → Option Value} (hT : TabsAt tabs h) (x : FnsAt q mg h) : FnsAt q mg (ghostOf h tabs) := fun d hd => by
  obtain ⟨a, o, pm, code, doc, h1, h2, h3, c, oc, vs, t, h4, h5, h6, h7⟩ := x d hd
  exact ⟨a, o, pm, code, doc, h1, ghost_get hT h2 (fun e => by rw [e] at h3; cases h3), h3, c, oc, vs, t, h4, ghost_get hT h5 (fun e => by
    rw [e] at h6
    cases h6
    simp at h7), h6, h7⟩
theorem c62_ghost {tabs : List (Addr × Addr)} {h : Heap} {v : Value} (hT : TabsAt tabs h) (e : c62 h = some v) : c62 (ghostOf h tabs) = some v := by
  unfold c62 at e ⊢
  split at e
  · rename_i cl d fd sl ho
    rw [ghost_get hT ho (fun e => by cases e)]
    exact e
  · cases e
end
end Mine
namespace Mine
open PySem PySem.W PySem.Calls PyProof.Rows PySem.Spec
theorem my_post {M : Model} {A : Around} {cd : Code} {s s₁ : Shared} {cw : ClaimW} {cl : Str → Option Addr} {mean : ExcName → Option Value} {args : List WData} {tabs : List (Addr × Addr)} (hT : TabsAt tabs s₁.heap)
    (h1 : ∀ cls, cw.raises args cls = false) (h2 : cw.post args (.bool true) args = true)
    (h : codeAny M A cd (fun r s' => r = .ok (.ret (.bool true)) ∧ (∀ b o, (ghostOf s₁.heap tabs).get? b = some o → s'.heap.get? b = some o) ∧ s'.os = s₁.os ∧ AllBare s'.gens ∧ GrownAll tabs s'.heap) s) : codeAny M A cd (GoodWG cw cl mean args s₁) s :=
  codeAny_mono h fun r s' ⟨hr, hk, hos, hg, hgr⟩ => by
    have keep : ∀ b o, b ∉ tabs.map (·.2) → s₁.heap.get? b = some o → s'.heap.get? b = some o := fun b o hb e => hk b o (ghost_ne e hb)
    have grown : ∀ b o, b ∈ tabs.map (·.2) → s₁.heap.get? b = some o → isCodeTable s₁.heap b ∧ o = tabObj #[] ∧ ∃ ps, s'.heap.get? b = some (tabObj ps) := fun b o hb e => by
      obtain ⟨q, hq, rfl⟩ := List.mem_map.mp hb
      have e2 := (hT q hq).2
      rw [e] at e2
      exact ⟨((hT q hq).1.tab (hT q hq).2).isCodeTable, Option.some.inj e2, hgr.get q hq⟩
    refine ⟨.inl ⟨.bool true, .bool true, [], hr, h1, .bool true, h2, fun _ => ⟨List.nodup_nil, fun a ha => by cases ha⟩⟩, ⟨fun b o e => ?_, fun b o e => ?_⟩, hos, hg⟩
    · by_cases hb : b ∈ tabs.map (·.2)
      · obtain ⟨ht, rfl, ps, hP⟩ := grown b o hb e
        exact .inr (.inl ⟨ht, rfl, #[], ps, rfl, by rw [Array.empty_append]; exact hP⟩)
      · exact .inl (keep b o hb e)
    · by_cases hb : b ∈ tabs.map (·.2)
      · obtain ⟨_, _, ps, hP⟩ := grown b o hb e
        exact ⟨_, hP⟩
      · exact ⟨o, keep b o hb e⟩
set_option maxRecDepth 100000 in
theorem topK (P : Params) : TopK (KK P) vw := by
  refine ⟨by kernel_rfl, ?_, by kernel_rfl, by kernel_rfl, by kernel_rfl, by kernel_rfl, by kernel_rfl, by kernel_rfl, by kernel_rfl, by kernel_rfl, by kernel_rfl⟩
  intro p hp
  simp only [List.mem_cons, List.not_mem_nil, or_false] at hp
  repeat' (rcases hp with rfl | hp)
  all_goals (try subst hp)
  all_goals (refine ⟨by kernel_rfl, by kernel_rfl, by kernel_rfl, by kernel_rfl, fun pm code doc => ?_⟩)
  all_goals first
    | exact bind0 rfl (by kernel_rfl)
    | exact bind1 rfl (fun a => by kernel_rfl)
    | exact bind2 rfl (fun a b => by kernel_rfl)
    | exact bind3 rfl (fun a b c => by kernel_rfl)
end Mine
open PySem PySem.W PySem.Calls PyProof.Rows PySem.Spec Mine
set_option maxRecDepth 100000 in
set_option maxHeartbeats 8000000 in
theorem PySem.Challenge.cw_in0305_01_holds : PySem.Challenge.rw_in0305_01.Holds := by
  w_on
  refine holds_law said1 fun said => ?_
  refine holds_open (q := vw) (loose := lo) (Xt := fun s => xlAt vw [] s && recOk [] s) (XP := XL vw []) (Yf := HK.obs) (Ya := HK.val) (YP := HK.says) (N := 4632) left_all HK.of HK.keeps (fun s e => xl_of s (Bool.and_eq_true_iff.mp e).1) XL.keeps (by rfl) (by rfl) (by rfl) (fun s e => recFacts_of (Bool.and_eq_true_iff.mp e).2) (by kernel_rfl) (by first | assumption | decide +kernel) (by decide +kernel) ⟨rfl, rfl, rfl, rfl, rfl, by decide +kernel⟩ ?hw ?hc
  case hw => w_witness2
  intro w s₀ s₁ mg mb G Y fa o pm cd doc dV kV ho hdd hcd hD hmg hg args vals as hpre hlay hrd hwl hlo
  have KX : (KK w.params).In s₁.heap := Y.1.1
  have hT8 : s₁.heap.get? 57 = some (tabObj #[]) := Y.1.2
  have h62 : c62 s₁.heap = some (.ref 61) := Y.2
  have X := (Ground.X G).1
  have V := (Ground.X G).2
  refine Ground.open G ?_
  intro T B D TE TW
  try (refine guard_noD D (by decide +kernel) ?_; clear D)
  have hT9 : TabsAt [(61, 57)] s₁.heap := List.forall_mem_cons.mpr ⟨⟨codeHd_of_K (c := 61) (P := 57) KX (by kernel_rfl), hT8⟩, fun _ h => nomatch h⟩
  have FN : FnsAt vw mg (ghostOf s₁.heap [(61, 57)]) := fns_ghost hT9 T.fn
  have C62 := c62_ghost hT9 h62
  clear hmg
  wrow_args hpre hlay hrd hwl hlo
  all_goals (
    first | refine callC_kw (enter_call ?_) | refine enter_call ?_
    w_top on
    refine my_post hT9 (fun _ => rfl) (by first | kernel_rfl | (refine' postW_of ?s ?v ?e; (case s => o_shape); (case v => wtm_val); (case e => w_fin))) ?_
    w_call any ho hdd hcd hD T F
    clear hdd
    kn_ghosts F T
    k_drop
    rename Frag.In _ _ => XK
    rename Top _ _ _ _ _ _ => TT
    rename Fr _ _ _ _ => FF
    rename News _ _ _ _ => NN
    rename IntsAre _ _ => II
    have tok : TopOk ⟨PySem.Challenge.rw_in0305_01.row.prog, w, ghostOf s₁.heap [(61, 57)], s₁.os, mg, mb⟩ :=
      topOk_of (topK w.params) XK FN C62 TT.g TT.b TT.builtins TT.nolimit (NN (57, tabObj #[]) (by simp)).2.2 codeHd TT.bmain
    refine law_run (s := ⟨_, _, _, _, _⟩) tok FF rfl (NN (57, tabObj #[]) (by simp)).1 (NN (57, tabObj #[]) (by simp)).2.1.symm rfl ?gg ?tk lifted II ?ll ?_
    (case gg => exact .of_eq hg)
    (case tk => exact Nat.succ_pos _)
    (case ll => lia)
    exact fun s' hk htab hos hgn => ⟨rfl, hk, hos, hgn, htab, True.intro⟩)
