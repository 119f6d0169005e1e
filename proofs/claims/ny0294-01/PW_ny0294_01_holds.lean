import PyProof.Rows.All
import Wide.All
import OpenK.AllK
import Wide.FinOn
import PySem.Challenge.RW_ny0294_01
open PySem PySem.W PySem.Spec PySem.Calls PyProof.Rows
set_option Elab.async false
set_option maxRecDepth 100000
set_option maxHeartbeats 8000000
set_option compiler.extract_closed false
namespace Mine
noncomputable def mkView (p : Program) {c0 c1 c2 c3 c4 c5 c6 c7 c8 c9 c10 c11 c12 c13 c14 c15 c16 c17 c18 c19 c20 c21 c22 c23 c24 c25 c26 c27 c28 c29 c30 c31 c32 c33 c34 c35 c36 c37 c38 c39 c40 c41 c42 c43 c44 c45 c46 c47 c48 c49 c50 c51 c52 c53 c54 : Stmt} (_ : p.main.body = [c0, c1, c2, c3, c4, c5, c6, c7, c8, c9, c10, c11, c12, c13, c14, c15, c16, c17, c18, c19, c20, c21, c22, c23, c24, c25, c26, c27, c28, c29, c30, c31, c32, c33, c34, c35, c36, c37, c38, c39, c40, c41, c42, c43, c44, c45, c46, c47, c48, c49, c50, c51, c52, c53, c54]) : Program := { p with main := { p.main with body := [c0, c1, c3, c4, c5, c7, c9, c11, c13, c15, c16, c18, c20, c21, c22, c24, c25, c26, c27, c28, c29, c30, c31, c32, c33, c34, c35, c36, c37, c38, c39, c40, c41, c42, c43, c44, c45, c47, c48, c49, c50, c51, c52, c53, c54] } }
noncomputable def view : Program := mkView PySem.Challenge.pw_ny0294_01 rfl
local macro_rules | `(tactic| o_head $H) => `(tactic| (
  refine holds_open (q := Mine.view) (loose := [Str.ofString "tspecials", Str.ofString "_name_disallowed_re", Str.ofString "_value_disallowed_re", Str.ofString "_formatparam", Str.ofString "_filemode_table"])
    (Xt := fun s => xlAt Mine.view [(Str.ofString "_filemode_table", WData.tuple
   [WData.tuple
       [WData.tuple [WData.int 40960, WData.str { cps := #[108] }],
         WData.tuple [WData.int 49152, WData.str { cps := #[115] }],
         WData.tuple [WData.int 32768, WData.str { cps := #[45] }],
         WData.tuple [WData.int 24576, WData.str { cps := #[98] }],
         WData.tuple [WData.int 16384, WData.str { cps := #[100] }],
         WData.tuple [WData.int 8192, WData.str { cps := #[99] }],
         WData.tuple [WData.int 4096, WData.str { cps := #[112] }]],
     WData.tuple [WData.tuple [WData.int 256, WData.str { cps := #[114] }]],
     WData.tuple [WData.tuple [WData.int 128, WData.str { cps := #[119] }]],
     WData.tuple
       [WData.tuple [WData.int 2112, WData.str { cps := #[115] }],
         WData.tuple [WData.int 2048, WData.str { cps := #[83] }],
         WData.tuple [WData.int 64, WData.str { cps := #[120] }]],
     WData.tuple [WData.tuple [WData.int 32, WData.str { cps := #[114] }]],
     WData.tuple [WData.tuple [WData.int 16, WData.str { cps := #[119] }]],
     WData.tuple
       [WData.tuple [WData.int 1032, WData.str { cps := #[115] }],
         WData.tuple [WData.int 1024, WData.str { cps := #[83] }],
         WData.tuple [WData.int 8, WData.str { cps := #[120] }]],
     WData.tuple [WData.tuple [WData.int 4, WData.str { cps := #[114] }]],
     WData.tuple [WData.tuple [WData.int 2, WData.str { cps := #[119] }]],
     WData.tuple
       [WData.tuple [WData.int 513, WData.str { cps := #[116] }],
         WData.tuple [WData.int 512, WData.str { cps := #[84] }],
         WData.tuple [WData.int 1, WData.str { cps := #[120] }]]])] s && recOk (RowW.records (OpenRow.toRowW PySem.Challenge.rw_ny0294_01.row)) s)
    (XP := XL Mine.view [(Str.ofString "_filemode_table", WData.tuple
   [WData.tuple
       [WData.tuple [WData.int 40960, WData.str { cps := #[108] }],
         WData.tuple [WData.int 49152, WData.str { cps := #[115] }],
         WData.tuple [WData.int 32768, WData.str { cps := #[45] }],
         WData.tuple [WData.int 24576, WData.str { cps := #[98] }],
         WData.tuple [WData.int 16384, WData.str { cps := #[100] }],
         WData.tuple [WData.int 8192, WData.str { cps := #[99] }],
         WData.tuple [WData.int 4096, WData.str { cps := #[112] }]],
     WData.tuple [WData.tuple [WData.int 256, WData.str { cps := #[114] }]],
     WData.tuple [WData.tuple [WData.int 128, WData.str { cps := #[119] }]],
     WData.tuple
       [WData.tuple [WData.int 2112, WData.str { cps := #[115] }],
         WData.tuple [WData.int 2048, WData.str { cps := #[83] }],
         WData.tuple [WData.int 64, WData.str { cps := #[120] }]],
     WData.tuple [WData.tuple [WData.int 32, WData.str { cps := #[114] }]],
     WData.tuple [WData.tuple [WData.int 16, WData.str { cps := #[119] }]],
     WData.tuple
       [WData.tuple [WData.int 1032, WData.str { cps := #[115] }],
         WData.tuple [WData.int 1024, WData.str { cps := #[83] }],
         WData.tuple [WData.int 8, WData.str { cps := #[120] }]],
     WData.tuple [WData.tuple [WData.int 4, WData.str { cps := #[114] }]],
     WData.tuple [WData.tuple [WData.int 2, WData.str { cps := #[119] }]],
     WData.tuple
       [WData.tuple [WData.int 513, WData.str { cps := #[116] }],
         WData.tuple [WData.int 512, WData.str { cps := #[84] }],
         WData.tuple [WData.int 1, WData.str { cps := #[120] }]]])]) (Yf := Hook.obs $H) (Ya := Hook.val $H) (YP := Hook.says $H) (N := 5054) ?hl (Hook.of $H) (Hook.keeps $H) (fun s e => xl_of s (Bool.and_eq_true_iff.mp e).1) XL.keeps (by rfl) (by rfl) (by rfl) (fun s e => recFacts_of (Bool.and_eq_true_iff.mp e).2) (by rfl) (by first | assumption | decide +kernel) (by decide +kernel) ⟨rfl, rfl, rfl, rfl, rfl, by decide +kernel⟩ ?hw ?hc
  (case hl => (intro w; unfold openEnds fencedOpening topFrom; rw [PySem.W.Fast.te14082659384304107361]; rw [PySem.W.Fast.te10274390034422433532]; rw [PySem.W.Fast.te14289696077712309145]; rw [PySem.W.Fast.te1435165496053646825]; rw [PySem.W.Fast.te4187177175401517315]; rw [PySem.W.Fast.te14364793385576792824]; rw [PySem.W.Fast.te5923862056798008813]; (try unfold openGood); (try unfold staticsOk); (try unfold namesBound); (try unfold laidKept); (try unfold xlAt); (try unfold recOk); (try unfold topStub); (try rw [PySem.W.Fast.te1571739515156823405]); (try rw [PySem.W.Fast.te5066977653060700880]); (try rw [PySem.W.Fast.te694669760492028198]); (try rw [PySem.W.Fast.te821141287760084731]); (try rw [PySem.W.Fast.te3247288618530077131]); (try rw [PySem.W.Fast.te15521713216982973386]); (try rw [PySem.W.Fast.te12139383696192264648]); (try rw [PySem.W.Fast.te7966671052430208091]); (try rw [PySem.W.Fast.te8920871248978507458]); (try rw [PySem.W.Fast.te14846217769314788766]); (try rw [PySem.W.Fast.te1584917186373303978]); (try rw [PySem.W.Fast.te4857012375875476094]); (try rw [PySem.W.Fast.te18344453789297297638]); (try rw [PySem.W.Fast.te12749700546528644094]); (try rw [PySem.W.Fast.te964301259703733418]); (try rw [PySem.W.Fast.te482687673346738481]); (try rw [PySem.W.Fast.te995047462949696687]); (try rw [PySem.W.Fast.te12822647523644345616]); (try rw [PySem.W.Fast.te17154629097778926822]); kernel_rfl))
  all_goals (rename_i zz; clear zz)))
local macro_rules | `(tactic| o_law) => `(tactic| refine holds_law (by (try unfold OpenLaw.wellSaid); (try unfold OpenRow.wellSaid); (try unfold OpenRow.partSaid); (try unfold looksOpen); (repeat' (with_reducible refine look_both ?_ ?_)); all_goals decide +kernel) fun said => ?_)
open_top hd for PySem.Challenge.rw_ny0294_01
theorem filled : (PySem.Challenge.rw_ny0294_01 = PySem.Challenge.rw_ny0294_01) ∧ (Mine.hd.heap_39 = Mine.hd.heap_39) := by k_fill; exact ⟨rfl, rfl⟩
theorem at_C0 : True := by w_top off; trivial

noncomputable abbrev lse : List Str := looseW Mine.view
      [Str.ofString "tspecials", Str.ofString "_name_disallowed_re", Str.ofString "_value_disallowed_re",
        Str.ofString "_formatparam", Str.ofString "_filemode_table"]

/-- a call of the def at f with the values vs, under any frame, hands back a value that R allows in the heap it leaves; all objects that stood stand -/
noncomputable abbrev Pure (n : Nat) (w : World) (f : Addr) (vs : List Value) (pre : Heap → Prop) (R : Heap → Heap → Value → Prop) : Prop :=
  ∀ (mean : ExcName → Option Value) (mg mb : Str → Option Value) (dp un : Nat) (gd : Option (List Code)) (cn : Str) (cs : Scope) (a : Addr) (ccd : Value) (cl : List (Str × Addr)) (outer : List Env) (A₀ : Around) (base h₀ : Heap) (L : Addr) (m : Str → Option Value) (s : Shared) (Q E : Value → Shared → Prop),
    Below A₀ base outer h₀ → Fr h₀ L s.heap m → (Mine.hd.heap_39 w.params).In h₀ → Top Mine.view lse mean mg mb h₀ → cs.kind = .function →
    dp + n < recursionLimit → un + 8 * n < cLine → pre s.heap → (∀ (v : Value) (h' : Heap) (tk' : Nat), Fr h₀ L h' m → s.heap.StaysIn h' → R s.heap h' v → Q v { s with heap := h', toks := tk' }) →
      wpAny (model PySem.Challenge.rw_ny0294_01.row.prog w) (ktrTop dp un gd cn cs L a ccd cl outer) (call (.ref f) vs) Q E s

noncomputable def Kept (h : Heap) (R : Result → Shared → Prop) : Result → Shared → Prop := fun r s' => h.StaysIn s'.heap → R r s'

section
variable {prog : Program} {w : World} {A A₀ : Around} {E : Value → Shared → Prop} {s : Shared} {K : Frag} {C L : Addr} {h₀ base : Heap} {m mg mb : Str → Option Value} {news : List (Addr × Obj)} {p : Program} {loose : List Str} {mean : ExcName → Option Value} {Q : Value → Shared → Prop}

theorem enter0 {env : Env} {outer : List Env} {R : Result → Shared → Prop} {name qual : Str} {params : Arguments} {body : List Stmt} {scope : Scope} {dV kV doc pm cdv ct oc : Value} {an od : Option Addr} {osl : Array (Option Value)} {f : Addr} {args : Args} {binds : List (Str × Value)}
    (B : Below A₀ base outer h₀) (F : Fr h₀ L s.heap m) (X₀ : K.In h₀) (T : Top p loose mean mg mb h₀) (hA : A.frames = some (env :: outer)) (hf : env.frame = some L) (hke : env.scope.kind = .function)
    (ho : K.lookup f = some ⟨oc, od, .func (fnOf name qual params body scope dV kV doc pm an cdv ct), osl⟩) (hcd : codeIn K cdv qual = true) (hroom : A.depth < recursionLimit)
    (hbind : BindsTo s (fnOf name qual params body scope dV kV doc pm an cdv ct) args binds) (hloc : ∀ y ∈ binds, scope.names.lookup y.1 = some .local)
    (h : ∀ g L' h₁, Fr h₀ L g m → Fr g L' h₁ (fun y => binds.reverse.lookup y) → News g L' h₁ [] → Below A base (env :: outer) g → K.In g → Top p loose mean mg mb g → s.heap.StaysIn g →
      wpAny (model prog w) (A.deeper (envOf qual scope L' f cdv)) (execs body (envOf qual scope L' f cdv))
        (fun fl s' => LeaveK h₀ L m g (Kept s.heap R) (match fl with | .ret v => v | _ => .none) s')
        (fun e s' => wpAny (model prog w) (A.deeper (envOf qual scope L' f cdv)) (leaving (envOf qual scope L' f cdv) e) (fun _ s'' => R (.error e) s'') (fun e' s'' => R (.error e') s'') s')
        { s with heap := h₁, toks := s.toks + binds.length })
    (hco : scope.isCoroutine = false) (hgen : scope.isGenerator = false) (hk : scope.kind = .function)
    (hcell : ∀ x ∈ scope.names, x.2 ≠ .cell) : codeAny (model prog w) A (.call (.ref f) args) R s := by
  have X := X₀.keeps F.keep
  obtain ⟨FG, BG, st, lv⟩ := groundX (R := Kept s.heap R) B F (News.nil : News h₀ L s.heap []) hA hf hke
  refine codeAny_call_def (fd := fnOf name qual params body scope dV kV doc pm an cdv ct) (body := body) (binds := binds) hroom (X _ _ ho) rfl (T.nolimit.keeps F.keep) (codeRec_of X hcd) rfl hbind hcell hloc (fun h₁ hns hk₁ => ?_) hco hgen hk
  refine wpAny_mono (h _ s.heap.objs.size h₁ FG ⟨hns, fun b o e => hk₁ b o (of_hideAll _ e), Nat.le_of_eq (hideAll_size _ _)⟩ News.nil BG (X₀.keeps st) (T.keeps st) fun b o e => e) (fun fl s' hl => ?_) fun _ _ y => y
  have q := lv _ _ hl
  obtain ⟨L', m', news', F', N', k⟩ := hl
  exact q fun b o e => F'.keep b o e
end

theorem at_C1 : True := by w_top off; trivial
theorem kind_isn : builtinKind "issubclass.nested" = none := by decide +kernel
theorem plain_isn : plainId "issubclass.nested" = true := by decide +kernel
theorem args_isn (a b c : Value) : argsOk "issubclass.nested" ⟨[a, b, c], []⟩ := by unfold argsOk; kernel_rfl
theorem sub_str : isSubtype (.type "str") (.type "str") = pure true := by rw [isSubtype_type]; kernel_rfl
theorem meta_str : typeOf (.type "str") = pure (.type "type") := kitMeta_of (by decide +kernel)

section
variable {prog : Program} {w : World} {A : Around} {E : Value → Shared → Prop}
theorem isn_self {s : Shared} {dep : Int} {tk : Tok} {Q : Fin → Shared → Prop} (hq : Q (.done (.ret (.bool true))) s) :
    wpAny (model prog w) A (Builtin.«issubclass.nested» ⟨[.type "str", .type "str", .int dep tk], []⟩) Q E s := by
  have h1 := meta_str
  have h2 := sub_str
  repeat (any_goals (first | assumption | (rw [h1]) | (rw [h2]) | wp_step))
theorem isn_meets {dep : Int} {tk : Tok} : Meets (Builtin.«issubclass.nested» ⟨[.type "str", .type "str", .int dep tk], []⟩) (fun _ R s => R (.ok (.ret (.bool true))) s) :=
  fun _ _ _ _ _ hs => isn_self hs
theorem isn_tuple {s : Shared} {tp : Addr} {tk : Tok} {Q : Fin → Shared → Prop}
    (htp : s.heap.get? tp = some { cls := .type "tuple", data := .seq #[.type "str", .type "bytes"] }) (hq : Q (.done (.ret (.bool true))) s) :
    wpAny (model prog w) A (Builtin.«issubclass.nested» ⟨[.type "str", .ref tp, .int 0 tk], []⟩) Q E s := by
  obtain ⟨h, g, d, t, os⟩ := s
  have hT2 : (⟨h, g, d, t, os⟩ : Shared).TypeIs (.ref tp) "tuple" := ⟨_, htp, rfl⟩
  have f1 := F.isi_sub_tuple
  repeat (any_goals (first | assumption | ((with_reducible show wpAny _ _ (call (Value.builtin "issubclass.nested") _) _ _ _); refine call_function_meets kind_isn plain_isn F.entry_issubclass_nested (args_isn _ _ _) isn_meets ?_) | wp_step))
theorem issub_tuple {s : Shared} {tp : Addr} {Q : Value → Shared → Prop}
    (htp : s.heap.get? tp = some { cls := .type "tuple", data := .seq #[.type "str", .type "bytes"] }) (hq : Q (.bool true) s) :
    wpAny (model prog w) A (call (.builtin "issubclass") [.type "str", .ref tp]) Q E s := by
  refine call_issubclass (S := fun _ R s => s.heap.get? tp = some { cls := .type "tuple", data := .seq #[.type "str", .type "bytes"] } ∧ R (.ok (.ret (.bool true))) s) (fun _ _ _ _ _ hs => issubclass_outer (isn_tuple hs.1 hs.2)) ⟨htp, hq⟩
end

local macro_rules | `(tactic| walk_at "call builtin:issubclass") => `(tactic| (k_here; (refine issub_tuple (News.get (by k_asm) (by k_mem)) ?_)))

theorem Pure.use {n : Nat} {w : World} {f : Addr} {vs : List Value} {pre : Heap → Prop} {R : Heap → Heap → Value → Prop} (C : Pure n w f vs pre R)
    {mean : ExcName → Option Value} {mg mb : Str → Option Value} {dp un : Nat} {gd : Option (List Code)} {cn : Str} {cs : Scope} {a : Addr} {ccd : Value} {cl : List (Str × Addr)} {outer : List Env} {A₀ : Around} {base h₀ : Heap} {L : Addr} {m : Str → Option Value} {s : Shared} {Q E : Value → Shared → Prop} {news : List (Addr × Obj)}
    (B : Below A₀ base outer h₀) (F : Fr h₀ L s.heap m) (X : (Mine.hd.heap_39 w.params).In h₀) (N : News h₀ L s.heap news) (T : Top Mine.view lse mean mg mb h₀) (hk : cs.kind = .function)
    (hd : dp + n < recursionLimit) (hu : un + 8 * n < cLine) (hp : pre s.heap) (ret : ∀ (v : Value) (h' : Heap) (tk' : Nat), Fr h₀ L h' m → News h₀ L h' news → R s.heap h' v → Q v { s with heap := h', toks := tk' }) :
    wpAny (model PySem.Challenge.rw_ny0294_01.row.prog w) (ktrTop dp un gd cn cs L a ccd cl outer) (call (.ref f) vs) Q E s :=
  C mean mg mb dp un gd cn cs a ccd cl outer A₀ base h₀ L m s Q E B F X T hk hd hu hp fun v h' tk' F' st r => ret v h' tk' F' (fun p hp => ⟨st _ _ (N p hp).1, (N p hp).2⟩) r

theorem fspath_c (w : World) (x : Str) (t : Tok) : Pure 1 w 266 [.str x t] (fun _ => True) (fun _ _ v => v = .str x t) := by
  ((intro mean9z mg9z mb9z dp9z un9z gd9z cn9z cs9z a9z ccd9z cl9z outer9z A₀9z base9z h₀9z L9z m9z s9z Q9z E9z B9z F9z X9z T9z hk9z hdp9z hun9z hpre9z hret9z; refine wpAny_call ?_; k_dflt (((refine' enter0 ?k1 ?k2 ?k3 ?k5 ?kA ?kF ?kK ?k6 ?k7 ?k8 ?k9 ?kB ?_ ?c2 ?c3 ?c4 ?c5; (((case kA => exact rfl); (case kF => exact rfl); (case kK => first | exact rfl | assumption); (case k1 => k_asm); (case k2 => k_asm); (case k3 => k_asm); (try (case k4 => k_asm)); (case k5 => k_asm); (case k6 => k_is); (case k7 => k_is); (case k8 => ktr_room); (try (case k9 => first | exact BindsTo.of_eq rfl | (refine' kp_binds ?kx ?ke; (case kx => k_in); (case ke => exact fun _ => rfl)))))); (((try (case c5 => decide)); (try (case kB => exact locs rfl)); (case c2 => exact rfl); (case c3 => exact rfl); (case c4 => exact rfl); k_whole)); intro g9z L9z h9z FG9z F9z N9z B9z X9z T9z St9z; (try dsimp only); (try k_lift B9z); (try k_fold))))))
  k_steps
  all_goals ((((with_reducible show Kept _ _ _ _); intro hSt9z; (rename ∀ (v : Value) (h' : Heap) (tk' : Nat), _ => hRet9z); refine hRet9z _ _ _ (by assumption) hSt9z ?_; clear hSt9z hRet9z)); rfl)


theorem get_sep_c (w : World) (x : Str) (t : Tok) : Pure 1 w 193 [.str x t] (fun _ => True) (fun _ _ v => ∃ t, v = .str (Str.ofString "/") t) := by
  ((intro mean9z mg9z mb9z dp9z un9z gd9z cn9z cs9z a9z ccd9z cl9z outer9z A₀9z base9z h₀9z L9z m9z s9z Q9z E9z B9z F9z X9z T9z hk9z hdp9z hun9z hpre9z hret9z; refine wpAny_call ?_; k_dflt (((refine' enter0 ?k1 ?k2 ?k3 ?k5 ?kA ?kF ?kK ?k6 ?k7 ?k8 ?k9 ?kB ?_ ?c2 ?c3 ?c4 ?c5; (((case kA => exact rfl); (case kF => exact rfl); (case kK => first | exact rfl | assumption); (case k1 => k_asm); (case k2 => k_asm); (case k3 => k_asm); (try (case k4 => k_asm)); (case k5 => k_asm); (case k6 => k_is); (case k7 => k_is); (case k8 => ktr_room); (try (case k9 => first | exact BindsTo.of_eq rfl | (refine' kp_binds ?kx ?ke; (case kx => k_in); (case ke => exact fun _ => rfl)))))); (((try (case c5 => decide)); (try (case kB => exact locs rfl)); (case c2 => exact rfl); (case c3 => exact rfl); (case c4 => exact rfl); k_whole)); intro g9z L9z h9z FG9z F9z N9z B9z X9z T9z St9z; (try dsimp only); (try k_lift B9z); (try k_fold))))))
  k_steps
  all_goals ((((with_reducible show Kept _ _ _ _); intro hSt9z; (rename ∀ (v : Value) (h' : Heap) (tk' : Nat), _ => hRet9z); refine hRet9z _ _ _ (by assumption) hSt9z ?_; clear hSt9z hRet9z)); exact ⟨_, rfl⟩)


theorem at_C2 : True := by w_top off; trivial
theorem basename_c (w : World) (x : Str) (t : Tok) (hx : x.length ≤ 100000) : Pure 2 w 280 [.str x t] (fun _ => True) (fun _ _ v => ∃ t, v = .str (Txt.slice x (some (Txt.rfind x (Str.ofString "/") + 1)) none) t) := by
  ((intro mean9z mg9z mb9z dp9z un9z gd9z cn9z cs9z a9z ccd9z cl9z outer9z A₀9z base9z h₀9z L9z m9z s9z Q9z E9z B9z F9z X9z T9z hk9z hdp9z hun9z hpre9z hret9z; refine wpAny_call ?_; k_dflt (((refine' enter0 ?k1 ?k2 ?k3 ?k5 ?kA ?kF ?kK ?k6 ?k7 ?k8 ?k9 ?kB ?_ ?c2 ?c3 ?c4 ?c5; (((case kA => exact rfl); (case kF => exact rfl); (case kK => first | exact rfl | assumption); (case k1 => k_asm); (case k2 => k_asm); (case k3 => k_asm); (try (case k4 => k_asm)); (case k5 => k_asm); (case k6 => k_is); (case k7 => k_is); (case k8 => ktr_room); (try (case k9 => first | exact BindsTo.of_eq rfl | (refine' kp_binds ?kx ?ke; (case kx => k_in); (case ke => exact fun _ => rfl)))))); (((try (case c5 => decide)); (try (case kB => exact locs rfl)); (case c2 => exact rfl); (case c3 => exact rfl); (case c4 => exact rfl); k_whole)); intro g9z L9z h9z FG9z F9z N9z B9z X9z T9z St9z; (try dsimp only); (try k_lift B9z); (try k_fold))))))
  repeat' (first | (k_unfold; (try dsimp only)) | (k_end; wrow_close) | with_reducible (k_here; (with_reducible show wpAny _ _ (call (Value.ref 193) [Value.str _ _]) _ _ _); k_dflt (refine' Pure.use (get_sep_c _ _ _) ?k1 ?k2 ?k3 ?k4 ?k5 ?kK ?kd ?ku trivial ?_; (((case k1 => k_asm); (case k2 => k_asm); (case k3 => k_asm); (case k4 => k_asm); (case k5 => k_asm); (case kK => first | exact rfl | assumption); (case kd => ktr_room); (case ku => ktr_units)))); intro v99z h99z tk99z F99z N99z e99z; (obtain ⟨t99z, e99z⟩ := e99z); (cases e99z); (try dsimp only); (try k_fold)) | with_reducible (k_here; (with_reducible show wpAny _ _ (call (Value.ref 266) [Value.str _ _]) _ _ _); k_dflt (refine' Pure.use (fspath_c _ _ _) ?k1 ?k2 ?k3 ?k4 ?k5 ?kK ?kd ?ku trivial ?_; (((case k1 => k_asm); (case k2 => k_asm); (case k3 => k_asm); (case k4 => k_asm); (case k5 => k_asm); (case kK => first | exact rfl | assumption); (case kd => ktr_room); (case ku => ktr_units)))); intro v99z h99z tk99z F99z N99z e99z; (cases e99z); (try dsimp only); (try k_fold)) | walk1 | (dsimp only; walk1) | (leave1; walk_say "STEP leave1"; try dsimp only))
  all_goals ((((with_reducible show Kept _ _ _ _); intro hSt9z; (rename ∀ (v : Value) (h' : Heap) (tk' : Nat), _ => hRet9z); refine hRet9z _ _ _ (by assumption) hSt9z ?_; clear hSt9z hRet9z)); exact ⟨_, rfl⟩)
noncomputable def rootOf (x : Str) : Str := if Txt.slice x none (some 1) ≠ Str.ofString "/" then Str.ofString "" else if Txt.slice x (some 1) (some 2) ≠ Str.ofString "/" ∨ Txt.slice x (some 2) (some 3) = Str.ofString "/" then Str.ofString "/" else Txt.slice x none (some 2)
noncomputable def restOf (x : Str) : Str := if Txt.slice x none (some 1) ≠ Str.ofString "/" then x else if Txt.slice x (some 1) (some 2) ≠ Str.ofString "/" ∨ Txt.slice x (some 2) (some 3) = Str.ofString "/" then Txt.slice x (some 1) none else Txt.slice x (some 2) none
noncomputable abbrev tupObj (vs : List Value) : Obj := { cls := .type "tuple", data := .seq vs.toArray }
theorem fresh_of {h g h' : Heap} {L a : Addr} {o : Obj} {news : List (Addr × Obj)} (st : h.StaysIn g) (N : News g L h' news) (hm : (a, o) ∈ news) : h.get? a = none := by
  cases e : h.get? a with
  | none => rfl
  | some o' => have := st _ _ e; rw [(N _ hm).2.2] at this; cases this
theorem tup3_end {h h' : Heap} {D : Addr} {a b c a' b' c' : Str} {t1 t2 t3 : Tok} (hg : h'.get? D = some (tupObj [.str a t1, .str b t2, .str c t3])) (hn : h.get? D = none) (e1 : a = a') (e2 : b = b') (e3 : c = c') :
    ∃ D' t1 t2 t3, Value.ref D = .ref D' ∧ h'.get? D' = some (tupObj [.str a' t1, .str b' t2, .str c' t3]) ∧ h.get? D' = none := by
  subst e1 e2 e3; exact ⟨D, t1, t2, t3, rfl, hg, hn⟩
theorem splitroot_c (w : World) (x : Str) (t : Tok) (hx : x.length ≤ 100000) : Pure 2 w 273 [.str x t] (fun _ => True)
    (fun h h' v => ∃ D t1 t2 t3, v = .ref D ∧ h'.get? D = some (tupObj [.str (Str.ofString "") t1, .str (rootOf x) t2, .str (restOf x) t3]) ∧ h.get? D = none) := by
  ((intro mean9z mg9z mb9z dp9z un9z gd9z cn9z cs9z a9z ccd9z cl9z outer9z A₀9z base9z h₀9z L9z m9z s9z Q9z E9z B9z F9z X9z T9z hk9z hdp9z hun9z hpre9z hret9z; refine wpAny_call ?_; k_dflt (((refine' enter0 ?k1 ?k2 ?k3 ?k5 ?kA ?kF ?kK ?k6 ?k7 ?k8 ?k9 ?kB ?_ ?c2 ?c3 ?c4 ?c5; (((case kA => exact rfl); (case kF => exact rfl); (case kK => first | exact rfl | assumption); (case k1 => k_asm); (case k2 => k_asm); (case k3 => k_asm); (try (case k4 => k_asm)); (case k5 => k_asm); (case k6 => k_is); (case k7 => k_is); (case k8 => ktr_room); (try (case k9 => first | exact BindsTo.of_eq rfl | (refine' kp_binds ?kx ?ke; (case kx => k_in); (case ke => exact fun _ => rfl)))))); (((try (case c5 => decide)); (try (case kB => exact locs rfl)); (case c2 => exact rfl); (case c3 => exact rfl); (case c4 => exact rfl); k_whole)); intro g9z L9z h9z FG9z F9z N9z B9z X9z T9z St9z; (try dsimp only); (try k_lift B9z); (try k_fold))))))
  repeat' (first | (k_unfold; (try dsimp only)) | (k_end; wrow_close) | with_reducible (k_here; (with_reducible show wpAny _ _ (call (Value.ref 193) [Value.str _ _]) _ _ _); k_dflt (refine' Pure.use (get_sep_c _ _ _) ?k1 ?k2 ?k3 ?k4 ?k5 ?kK ?kd ?ku trivial ?_; (((case k1 => k_asm); (case k2 => k_asm); (case k3 => k_asm); (case k4 => k_asm); (case k5 => k_asm); (case kK => first | exact rfl | assumption); (case kd => ktr_room); (case ku => ktr_units)))); intro v99z h99z tk99z F99z N99z e99z; (obtain ⟨t99z, e99z⟩ := e99z); (cases e99z); (try dsimp only); (try k_fold)) | with_reducible (k_here; (with_reducible show wpAny _ _ (call (Value.ref 266) [Value.str _ _]) _ _ _); k_dflt (refine' Pure.use (fspath_c _ _ _) ?k1 ?k2 ?k3 ?k4 ?k5 ?kK ?kd ?ku trivial ?_; (((case k1 => k_asm); (case k2 => k_asm); (case k3 => k_asm); (case k4 => k_asm); (case k5 => k_asm); (case kK => first | exact rfl | assumption); (case kd => ktr_room); (case ku => ktr_units)))); intro v99z h99z tk99z F99z N99z e99z; (cases e99z); (try dsimp only); (try k_fold)) | walk1 | (dsimp only; walk1) | (leave1; walk_say "STEP leave1"; try dsimp only))
  all_goals ((((with_reducible show Kept _ _ _ _); intro hSt9z; (rename ∀ (v : Value) (h' : Heap) (tk' : Nat), _ => hRet9z); refine hRet9z _ _ _ (by assumption) hSt9z ?_; clear hSt9z hRet9z)); refine tup3_end (News.get (by assumption) (List.Mem.head _)) (fresh_of (by assumption) (by assumption) (List.Mem.head _)) rfl ?_ ?_)
  all_goals (simp_all [rootOf, restOf])

theorem news_fresh {h₀ h h' : Heap} {L D : Addr} {m : Str → Option Value} {o : Obj} {news : List (Addr × Obj)} (F : Fr h₀ L h m) (N : News h₀ L h' news) (hg : h'.get? D = some o) (hn : h.get? D = none) : News h₀ L h' ((D, o) :: news) := by
  intro p hp
  rcases List.mem_cons.mp hp with rfl | hp
  · refine ⟨hg, fun e => ?_, ?_⟩
    · obtain ⟨oL, _, _, hL, _⟩ := F.ns
      have e' : D = L := e
      rw [e', hL] at hn; cases hn
    · cases e : h₀.get? D with
      | none => rfl
      | some o' => have := F.keep _ _ e; rw [hn] at this; cases this
  · exact N p hp
theorem Pure.use' {n : Nat} {w : World} {f : Addr} {vs : List Value} {pre : Heap → Prop} {R : Heap → Heap → Value → Prop} (C : Pure n w f vs pre R)
    {mean : ExcName → Option Value} {mg mb : Str → Option Value} {dp un : Nat} {gd : Option (List Code)} {cn : Str} {cs : Scope} {a : Addr} {ccd : Value} {cl : List (Str × Addr)} {outer : List Env} {A₀ : Around} {base h₀ : Heap} {L : Addr} {m : Str → Option Value} {s : Shared} {Q E : Value → Shared → Prop} {news : List (Addr × Obj)}
    (B : Below A₀ base outer h₀) (F : Fr h₀ L s.heap m) (X : (Mine.hd.heap_39 w.params).In h₀) (N : News h₀ L s.heap news) (T : Top Mine.view lse mean mg mb h₀) (hk : cs.kind = .function)
    (hd : dp + n < recursionLimit) (hu : un + 8 * n < cLine) (hp : pre s.heap) (ret : ∀ (v : Value) (h' : Heap) (tk' : Nat), Fr h₀ L h' m → News h₀ L h' news → Fr h₀ L s.heap m → R s.heap h' v → Q v { s with heap := h', toks := tk' }) :
    wpAny (model PySem.Challenge.rw_ny0294_01.row.prog w) (ktrTop dp un gd cn cs L a ccd cl outer) (call (.ref f) vs) Q E s :=
  Pure.use C B F X N T hk hd hu hp fun v h' tk' F' N' r => ret v h' tk' F' N' F r
local macro_rules | `(tactic| walk_at "my len") => `(tactic| first | assumption | (have hcL9 := True.intro; omega))

theorem at_C3 : True := by w_top off; trivial
noncomputable def normStep (root : Str) (acc : List Str) (c : Str) : List Str :=
  if c = Str.ofString "" ∨ c = Str.ofString "." then acc
  else if c ≠ Str.ofString ".." ∨ (root = Str.ofString "" ∧ acc = []) ∨ (acc ≠ [] ∧ acc.getLast? = some (Str.ofString "..")) then acc ++ [c]
  else acc.dropLast
noncomputable def normL (root : Str) (xs : List Str) : List Str := xs.foldl (normStep root) []
theorem restOf_le (x : Str) : (restOf x).length ≤ x.length := by
  unfold restOf; split
  · exact Nat.le_refl _
  · split <;> exact Txt.slice_le x _ _
theorem split_fits {x : Str} (h : x.length ≤ 100000) : x.length + 2 ≤ sizeLine := by rw [sizeLine_eq]; omega

noncomputable def wt (ys : List Str) : Nat := (ys.map (·.length)).sum + ys.length
theorem wt_append (a b : List Str) : wt (a ++ b) = wt a + wt b := by simp [wt]; omega
theorem wt_cons (a : Str) (b : List Str) : wt (a :: b) = a.length + 1 + wt b := by simp [wt]; omega
theorem wt_nil : wt [] = 0 := rfl
theorem wt_dropLast (a : List Str) : wt a.dropLast ≤ wt a := by
  rcases List.eq_nil_or_concat a with rfl | ⟨b, c, rfl⟩
  · simp
  · simp [wt_append]
theorem wt_join (sep : Str) (hs : sep.length = 1) : ∀ ys : List Str, ys ≠ [] → (Str.join sep ys).length + 1 = wt ys
  | [x], _ => by show x.length + 1 = _; simp [wt]
  | x :: y :: r, _ => by
    have h := wt_join sep hs (y :: r) (by simp)
    show (x ++ sep ++ Str.join sep (y :: r)).length + 1 = _
    rw [Str.length_append, Str.length_append, wt_cons, ← h, hs]; omega
theorem wt_split (x sep : Str) (hs : sep.length = 1) : wt (Txt.split x sep) ≤ x.length + 1 := by
  by_cases h : Txt.split x sep = []
  · rw [h]; simp [wt]
  · have := wt_join sep hs _ h
    rw [StrLaws.join_split] at this; omega
theorem wt_mem {p : Str} {ys : List Str} (h : p ∈ ys) : p.length + 1 ≤ wt ys := by
  induction ys with
  | nil => cases h
  | cons a r ih =>
    rw [wt_cons]
    rcases List.mem_cons.mp h with rfl | h
    · omega
    · have := ih h; omega
theorem wt_len (ys : List Str) : ys.length ≤ wt ys := by simp [wt]
theorem wt_normStep (root : Str) (acc : List Str) (c : Str) : wt (normStep root acc c) ≤ wt acc + (c.length + 1) := by
  unfold normStep
  split
  · omega
  · split
    · rw [wt_append, wt_cons, wt_nil]; omega
    · have := wt_dropLast acc; omega
theorem wt_normFold (root : Str) : ∀ (xs acc : List Str), wt (xs.foldl (normStep root) acc) ≤ wt acc + wt xs
  | [], acc => by simp
  | c :: r, acc => by
    have h1 := wt_normFold root r (normStep root acc c)
    have h2 := wt_normStep root acc c
    rw [List.foldl_cons, wt_cons]; omega
theorem wt_normL (root : Str) (xs : List Str) : wt (normL root xs) ≤ wt xs := by
  have := wt_normFold root xs []
  rw [wt_nil] at this; unfold normL; omega
theorem normL_snoc (root : Str) (xs : List Str) (c : Str) : normL root (xs ++ [c]) = normStep root (normL root xs) c := by simp [normL]
theorem strsAre_length {vs : List Value} {ys : List Str} (h : StrsAre vs ys) : vs.length = ys.length := by
  induction h with
  | nil => rfl
  | cons y t _ ih => simp [ih]

noncomputable def Hold (P : Prop) : Prop := P
theorem Hold.out {P : Prop} (h : Hold P) : P := h

/-- what stands between two turns of a loop over the texts ls, whose state is one list at nc -/
noncomputable def J1 (nc l : Addr) (ls : List (Str × Tok)) (nn : Nat) (rest : List (Addr × Obj)) (x : Str) (stored : List Str) (m₀ : Str → Option Value) (Inv : List Str → List Value → Prop) (pre : List Str) (m : Str → Option Value) (nx : List (Addr × Obj)) : Prop :=
  ∃ us n, nx = (nc, listOf us.toArray n) :: (l, listOf (strValues ls).toArray nn) :: rest ∧ (∀ z, z ≠ x → stored.contains z = false → m z = m₀ z) ∧ Inv pre us

theorem strValues_get : ∀ {ls : List (Str × Tok)} {i : Nat} {v : Value}, (strValues ls)[i]? = some v → ∃ d t, v = .str d t ∧ (ls.map (·.1))[i]? = some d
  | [], i, v, h => by simp [strValues] at h
  | (d, t) :: r, 0, v, h => by
    have : some (Value.str d t) = some v := h
    exact ⟨d, t, (Option.some.inj this).symm, rfl⟩
  | (d, t) :: r, i + 1, v, h => by
    have : (strValues r)[i]? = some v := h
    obtain ⟨d', t', e, h'⟩ := strValues_get this
    exact ⟨d', t', e, by simpa using h'⟩
theorem take_split {xs : List Str} {i : Nat} {d : Str} (h : xs[i]? = some d) : xs.take (i + 1) = xs.take i ++ [d] ∧ xs = xs.take i ++ d :: xs.drop (i + 1) := by
  have h1 : xs.take (i + 1) = xs.take i ++ [d] := by rw [List.take_add_one, h]; rfl
  refine ⟨h1, ?_⟩
  have := (List.take_append_drop (i + 1) xs).symm
  rw [h1] at this
  simpa using this
theorem strValues_length (ls : List (Str × Tok)) : (strValues ls).length = (ls.map (·.1)).length := by
  induction ls with
  | nil => rfl
  | cons p r ih => simp [strValues] at ih ⊢

section
variable {prog : Program} {w : World} {A : Around} {E : Value → Shared → Prop} {s : Shared} {env : Env} {h₀ : Heap} {x : Str} {body : List Stmt} {Q : Flow → Shared → Prop}
theorem loop1 {nc l : Addr} {us₀ : List Value} {n₀ nn : Nat} {ls : List (Str × Tok)} {rest : List (Addr × Obj)} {m₀ : Str → Option Value} (stored : List Str) (Inv : List Str → List Value → Prop)
    (hh : A.handled = none) (F : Fr h₀ env.locals s.heap m₀) (N : News h₀ env.locals s.heap ((nc, listOf us₀.toArray n₀) :: (l, listOf (strValues ls).toArray nn) :: rest)) (h0 : Inv [] us₀)
    (turn : ∀ us n pre d post t (u : Str → Option Value) h tk own, ls.map (·.1) = pre ++ d :: post → OwnOff own (nc :: l :: rest.map (·.1)) → Inv pre us →
      Fr h₀ env.locals h (fun y => if y = x then some (.str d t) else if stored.contains y then u y else m₀ y) → News h₀ env.locals h ((nc, listOf us.toArray n) :: (l, listOf (strValues ls).toArray nn) :: (rest ++ own)) →
      wpAny (model prog w) A (execs body env) (InvPostG h₀ env.locals (J1 nc l ls nn rest x stored m₀ Inv (pre ++ [d])) own { s with heap := h, toks := tk } Q) E { s with heap := h, toks := tk })
    (done : ∀ us n (u : Str → Option Value) h tk, Inv (ls.map (·.1)) us → Fr h₀ env.locals h (fun y => if y = x then u y else if stored.contains y then u y else m₀ y) → News h₀ env.locals h ((nc, listOf us.toArray n) :: (l, listOf (strValues ls).toArray nn) :: rest) → Q .next { s with heap := h, toks := tk }) :
    wpAny (model prog w) A (pyIter (.ref l)) (fun it s₂ => LoopAtV prog w A h₀ env x body Q E it s₂) E s := by
  refine kdl_iter (vs := strValues ls) (nn := nn) (fun i m nx => J1 nc l ls nn rest x stored m₀ Inv ((ls.map (·.1)).take i) m nx) hh (.tail _ (.head _)) F N ⟨us₀, n₀, rfl, fun _ _ _ => rfl, by simpa using h0⟩ ?_ ?_
  · rintro i v m₁ nx h tk own hv hoff _ ⟨us, n, rfl, hm, hI⟩ F₁ N₁
    obtain ⟨d, t, rfl, hd⟩ := strValues_get hv
    obtain ⟨h1, h2⟩ := take_split hd
    have F₂ : Fr h₀ env.locals h (fun y => if y = x then some (.str d t) else if stored.contains y then m₁ y else m₀ y) := by
      have e : (fun y => if y = x then some (Value.str d t) else if stored.contains y then m₁ y else m₀ y) = fun y => if y = x then some (Value.str d t) else m₁ y := by
        funext y
        by_cases hy : y = x
        · simp [hy]
        · simp only [if_neg hy]
          by_cases hs : stored.contains y = true
          · simp only [if_pos hs]
          · have hs' : stored.contains y = false := by simpa using hs
            simp only [hs', Bool.false_eq_true, if_false]; exact (hm y hy hs').symm
      rw [e]; exact F₁
    refine wpAny_mono (turn us n _ d _ t m₁ h tk own h2 hoff hI F₂ N₁) (fun f s₂ p => ?_) fun _ _ x => x
    have up : InvEndG h₀ env.locals (J1 nc l ls nn rest x stored m₀ Inv ((ls.map (·.1)).take i ++ [d])) own { s with heap := h, toks := tk } s₂ →
        InvEndG h₀ env.locals (fun m' nx => (l, listOf (strValues ls).toArray nn) ∈ nx ∧ J1 nc l ls nn rest x stored m₀ Inv ((ls.map (·.1)).take (i + 1)) m' nx) own { s with heap := h, toks := tk } s₂ := by
      rintro ⟨h', tk', m', news', nx', e', F', N', hn', ho', ha, hS⟩
      refine ⟨h', tk', m', news', nx', e', F', N', hn', ho', ha, ?_, by rw [h1]; exact hS⟩
      obtain ⟨us', n', rfl, _⟩ := hS
      exact .tail _ (.head _)
    cases f with
    | ret v => exact p
    | brk => exact p
    | next => exact up p
    | cont => exact up p
  · rintro m₁ nx h tk ⟨us, n, rfl, hm, hI⟩ F₁ N₁
    rw [strValues_length, List.take_length] at hI
    refine done us n m₁ h tk hI ?_ N₁
    have e : (fun y => if y = x then m₁ y else if stored.contains y then m₁ y else m₀ y) = m₁ := by
      funext y
      by_cases hy : y = x
      · simp [hy]
      · simp only [if_neg hy]
        by_cases hs : stored.contains y = true
        · simp only [if_pos hs]
        · have hs' : stored.contains y = false := by simpa using hs
          simp only [hs', Bool.false_eq_true, if_false]; exact (hm y hy hs').symm
    rw [e]; exact F₁
theorem end1 {nc l : Addr} {nn : Nat} {ls : List (Str × Tok)} {rest : List (Addr × Obj)} {m₀ m' : Str → Option Value} {stored : List Str} {Inv : List Str → List Value → Prop} {pre : List Str} {L : Addr} {own news' : List (Addr × Obj)} {s₁ : Shared} {h' : Heap} {tk : Nat} (us : List Value) (n : Nat)
    (hoff : OwnOff own (nc :: l :: rest.map (·.1))) (F : Fr h₀ L h' m') (N : News h₀ L h' news') (hn : ∀ p ∈ (nc, listOf us.toArray n) :: (l, listOf (strValues ls).toArray nn) :: rest, p ∈ news') (ho : ∀ p ∈ own, p ∈ news')
    (hm : ∀ z, z ≠ x → stored.contains z = false → m' z = m₀ z) (hI : Inv pre us) :
    InvEndG h₀ L (J1 nc l ls nn rest x stored m₀ Inv pre) own s₁ { s₁ with heap := h', toks := tk } :=
  ⟨h', tk, m', news', _, rfl, F, N, hn, ho, hoff, us, n, rfl, hm, hI⟩
end

theorem at_C4 : True := by w_top off; trivial
theorem turn_facts {x : Str} {ls : List (Str × Tok)} {pre post us : List _} {d : Str} (hx : x.length ≤ 100000) (eS : ls.map (·.1) = Txt.split (restOf x) (Str.ofString "/")) (e : ls.map (·.1) = pre ++ d :: post) (hI : StrsAre us (normL (rootOf x) pre)) :
    d.length ≤ 100000 ∧ us.length ≤ 100001 := by
  have h1 := wt_split (restOf x) (Str.ofString "/") (by decide)
  rw [← eS, e, wt_append, wt_cons] at h1
  have h2 := restOf_le x
  have h3 := wt_normL (rootOf x) pre
  have h4 := wt_len (normL (rootOf x) pre)
  have h5 := strsAre_length hI
  omega
theorem rootOf_le (x : Str) : (rootOf x).length ≤ x.length + 1 := by
  unfold rootOf
  split
  · exact Nat.zero_le _
  · split
    · exact Nat.le_add_left 1 _
    · exact Nat.le_succ_of_le (Txt.slice_le x _ _)
theorem strs_last : ∀ {us : List Value} {ys : List Str}, StrsAre us ys → us.isEmpty = false → ∃ y t, us = us.dropLast ++ [.str y t] ∧ ys.getLast? = some y ∧ ys = ys.dropLast ++ [y] ∧ StrsAre us.dropLast ys.dropLast
  | _, _, .nil, h => by cases h
  | _, _, .cons y t .nil, _ => ⟨y, t, rfl, rfl, rfl, .nil⟩
  | _, _, .cons y t (.cons z u r), _ => by
    obtain ⟨y', t', h1, h2, h4, h3⟩ := strs_last (.cons z u r) rfl
    refine ⟨y', t', congrArg (List.cons _) h1, by simpa using h2, congrArg (List.cons y) h4, .cons y t h3⟩
theorem strs_snoc {us : List Value} {ys : List Str} {y : Str} {t : Tok} (h : StrsAre us ys) : StrsAre (us ++ [.str y t]) (ys ++ [y]) := by
  induction h with
  | nil => exact .cons y t .nil
  | cons z u _ ih => exact .cons z u ih
section
variable {prog : Program} {w : World} {A : Around} {E : Value → Shared → Prop} {s : Shared} {h₀ : Heap} {L D : Addr} {m : Str → Option Value} {news news' : List (Addr × Obj)} {n : Nat}
theorem txt_pop {us : List Value} {ys : List Str} {Q : Value → Shared → Prop} (F : Fr h₀ L s.heap m) (N : News h₀ L s.heap news) (U : Upd D (listOf us.toArray n) (listOf us.dropLast.toArray (n + 1)) news news') (hi : StrsAre us ys) (hne : us.isEmpty = false)
    (hz : us.length ≤ 1048576) (h : ∀ h' y t, Fr h₀ L h' m → News h₀ L h' news' → StrsAre us.dropLast ys.dropLast → Q (.str y t) { s with heap := h' }) : wpAny (model prog w) A (call (.builtin "list.pop") [.ref D]) Q E s := by
  obtain ⟨y, t, h1, h2, _, h3⟩ := strs_last hi hne
  refine kl_pop F N (p := us.dropLast) (y := .str y t) ?_ U (by rw [sizeLine_eq]; simpa using Nat.le_trans hz (by decide)) fun h' F' N' => h h' y t F' N' h3
  have e := kpa_last (.str y t) us.dropLast
  rw [← h1] at e
  simpa using e
theorem txt_last {value slice : Expr} {us : List Value} {ys : List Str} {u : Tok} {Q : Value → Shared → Prop} (N : News h₀ L s.heap news) (hm : (D, listOf us.toArray n) ∈ news) (hi : StrsAre us ys) (hne : us.isEmpty = false)
    (h : ∀ y t, ys.getLast? = some y → Q (.str y t) s)
    (hs : subscripted slice false (.ref D) (.int (-1) u) = operate [.ref D, .int (-1) u] (getItem (.ref D) (.int (-1) u)) := by with_unfolding_all rfl) :
    wpAny (model prog w) A (subscriptTail value slice (.ref D) (.int (-1) u)) Q E s := by
  obtain ⟨y, t, h1, h2, _, h3⟩ := strs_last hi hne
  have hl : s.heap.IsList D us.toArray := ⟨_, (N _ hm).1, rfl, n, rfl⟩
  have hlen : us.length = us.dropLast.length + 1 := by rw [h1]; simp
  refine tail_any hl.typeIs slot_list_getitem.lookup (wpAny_getItem_list_neg hl (by decide) (by rw [List.size_toArray, hlen]; omega) (by decide) ?_ (h y t h2)) hs
  rw [List.size_toArray, hlen]
  have : ((-1 : Int) + ((us.dropLast.length + 1 : Nat) : Int)).toNat = us.dropLast.length := by omega
  rw [this, List.getElem?_toArray, h1]
  simp
theorem txt_truthy {us : List Value} {ys : List Str} {Q : Bool → Shared → Prop} (N : News h₀ L s.heap news) (hm : (D, listOf us.toArray n) ∈ news) (_hi : StrsAre us ys) (hz : us.length ≤ 1048576)
    (h : Q (!us.isEmpty) { s with toks := s.toks + 1 + 1 }) : wpAny (model prog w) A (truthy (.ref D)) Q E s :=
  wpAny_truthy_list (items := us.toArray) ⟨_, (N _ hm).1, rfl, n, rfl⟩ (by rw [List.size_toArray]; omega) (by rw [List.isEmpty_toArray]; exact h)
end
theorem addS {prog : Program} {w : World} {A : Around} {E : Value → Shared → Prop} {s : Shared} {x y : Str} {t u : Tok} {Q : Value → Shared → Prop} (hsz : x.length + y.length ≤ sizeLine) (h : ∀ t' tk, (x ++ y).length = x.length + y.length → Q (.str (x ++ y) t') { s with toks := tk }) : wpAny (model prog w) A (binaryOp .Add (.str x t) (.str y u)) Q E s :=
  PyProof.Rows.add_str (fun t' tk => h t' tk (Str.length_append _ _)) hsz
theorem str_empty {d : Str} : d = Str.ofString "" ↔ d.length = 0 := by
  constructor
  · rintro rfl; rfl
  · intro h
    obtain ⟨a⟩ := d
    have : a = #[] := Array.eq_empty_of_size_eq_zero h
    subst this; rfl
theorem strs_nil {us : List Value} {ys : List Str} (h : StrsAre us ys) : us.isEmpty = ys.isEmpty := by cases h <;> rfl
local macro_rules | `(tactic| walk_at "my end1") => `(tactic| ((rename News _ _ _ _ => eN); (try simp only [List.push_toArray] at eN); refine end1 _ _ (by assumption) (by assumption) eN (List.forall_mem_cons.mpr ⟨.head _, List.forall_mem_cons.mpr ⟨.tail _ (.head _), fun p hp => .tail _ (.tail _ (List.mem_append.mpr (.inl hp)))⟩⟩) (fun p hp => .tail _ (.tail _ (List.mem_append.mpr (.inr hp)))) (fun z h1 h2 => by simp only [h1, h2, if_false, Bool.false_eq_true]) ?_))
theorem str_end {a b : Str} {t : Tok} (e : a = b) : ∃ t', Value.str a t = .str b t' := ⟨t, by rw [e]⟩
noncomputable def normP (x : Str) : Str := rootOf x ++ Txt.join (Str.ofString "/") (normL (rootOf x) (Txt.split (restOf x) (Str.ofString "/")))
noncomputable def normF (x : Str) : Str := if x.length = 0 then Str.ofString "." else if (normP x).length = 0 then Str.ofString "." else normP x
theorem done_facts {x : Str} {ls : List (Str × Tok)} (hx : x.length ≤ 100000) (eS : ls.map (·.1) = Txt.split (restOf x) (Str.ofString "/")) :
    ((normL (rootOf x) (ls.map (·.1))).map (·.length)).sum + (normL (rootOf x) (ls.map (·.1))).length ≤ 100001 := by
  have h1 := wt_split (restOf x) (Str.ofString "/") (by decide)
  rw [← eS] at h1
  have h2 := restOf_le x
  have h3 := wt_normL (rootOf x) (ls.map (·.1))
  unfold wt at h3 h1
  omega
theorem join_le {sep : Str} {ys : List Str} (h : (ys.map (·.length)).sum + ys.length ≤ 100001) (hs : sep.length ≤ 16) : (Txt.join sep ys).length ≤ 2000000 := by
  have h1 := StrLaws.join_length_le sep ys
  rw [← StrLaws.glued_eq_join] at h1
  have h2 : ys.length * sep.length ≤ ys.length * 16 := Nat.mul_le_mul_left _ hs
  show (Builtin.Str.glued sep ys).length ≤ _
  omega
section
local macro_rules | `(tactic| walk_at "exec For Name Name cons nil") => `(tactic| (k_here; refine Hold.out ?_))
local macro_rules | `(tactic| walk_at "InvEndG") => `(tactic| walk_at "my end1")
theorem normpath_c (w : World) (x : Str) (t : Tok) (hx : x.length ≤ 100000) : Pure 3 w 287 [.str x t] (fun _ => True) (fun _ _ v => ∃ t, v = .str (normF x) t) := by
  ((intro mean9z mg9z mb9z dp9z un9z gd9z cn9z cs9z a9z ccd9z cl9z outer9z A₀9z base9z h₀9z L9z m9z s9z Q9z E9z B9z F9z X9z T9z hk9z hdp9z hun9z hpre9z hret9z; refine wpAny_call ?_; k_dflt (((refine' enter0 ?k1 ?k2 ?k3 ?k5 ?kA ?kF ?kK ?k6 ?k7 ?k8 ?k9 ?kB ?_ ?c2 ?c3 ?c4 ?c5; (((case kA => exact rfl); (case kF => exact rfl); (case kK => first | exact rfl | assumption); (case k1 => k_asm); (case k2 => k_asm); (case k3 => k_asm); (try (case k4 => k_asm)); (case k5 => k_asm); (case k6 => k_is); (case k7 => k_is); (case k8 => ktr_room); (try (case k9 => first | exact BindsTo.of_eq rfl | (refine' kp_binds ?kx ?ke; (case kx => k_in); (case ke => exact fun _ => rfl)))))); (((try (case c5 => decide)); (try (case kB => exact locs rfl)); (case c2 => exact rfl); (case c3 => exact rfl); (case c4 => exact rfl); k_whole)); intro g9z L9z h9z FG9z F9z N9z B9z X9z T9z St9z; (try dsimp only); (try k_lift B9z); (try k_fold))))))
  repeat' (first | (k_unfold; (try dsimp only)) | (k_end; wrow_close) | with_reducible (k_here; (with_reducible show wpAny _ _ (binaryOp Operator.Add (Value.str _ _) (Value.str _ _)) _ _ _); k_dflt (refine addS (by rw [sizeLine_eq]; omega) ?_); intro t99z k99z hl99z; clear hl99z) | with_reducible (k_here; (with_reducible show wpAny _ _ (call (Value.builtin "str.join") [Value.str _ _, Value.ref _]) _ _ _); (with_reducible rename StrsAre _ _ => hSt99z); k_dflt (refine' join_listW (ys := ?ys) ?k1 ?k2 ?k3 ?k4 ?_; (case k1 => exact News.isList (by k_asm) (by k_mem)); (case k2 => simpa using hSt99z); (case k3 => decide); (case k4 => first | omega | (simp only [] at *; omega))); intro t99z k99z) | with_reducible (k_here; (with_reducible show wpAny _ _ (truthy (Value.ref _)) _ _ _); (with_reducible rename StrsAre _ _ => hSt99z); k_dflt (refine' txt_truthy ?N ?m hSt99z ?z ?_; (case N => k_asm); (case m => k_mem); (case z => first | omega | (simp only [List.length_append, List.length_cons, List.length_nil]; omega)))) | with_reducible (k_here; (with_reducible show wpAny _ _ (subscriptTail _ _ (Value.ref _) (Value.int (-1) _)) _ _ _); (with_reducible rename StrsAre _ _ => hSt99z); k_dflt (refine' txt_last ?N ?m hSt99z ?l ?_ ?z; (case N => k_asm); (case m => k_mem); (case l => with_reducible assumption); (case z => with_unfolding_all rfl)); intro y99z t99z e99z) | with_reducible (k_here; (with_reducible show wpAny _ _ (call (Value.builtin _) [Value.ref _]) _ _ _); (with_reducible rename StrsAre _ _ => hSt99z); k_dflt (refine' txt_pop ?F ?N ?U hSt99z ?l ?z ?_; (case F => k_asm); (case N => k_asm); (case U => k_upd); (case l => assumption); (case z => omega)); intro h9z y9z t9z F9z N9z hI9z) | with_reducible (k_here; (with_reducible show wpAny _ _ (call (Value.builtin "str.split") _) _ _ _); refine KSpl.split1 (by k_asm) (by k_asm) (by decide) ?_ (by (first | exact split_fits (by assumption) | exact split_fits (Nat.le_trans (restOf_le _) (by assumption)))); intro D9z l9z h9z k9z e9z a9z F9z N9z l19z; (try k_lt l19z)) | with_reducible (k_here; (with_reducible show wpAny _ _ (call (Value.ref 273) [Value.str _ _]) _ _ _); k_dflt (refine' Pure.use' (splitroot_c _ _ _ ?kx) ?k1 ?k2 ?k3 ?k4 ?k5 ?kK ?kd ?ku trivial ?_; (case kx => walk_at "my len"); (((case k1 => k_asm); (case k2 => k_asm); (case k3 => k_asm); (case k4 => k_asm); (case k5 => k_asm); (case kK => first | exact rfl | assumption); (case kd => ktr_room); (case ku => ktr_units)))); intro v99z h99z tk99z F99z N99z f99z e99z; (obtain ⟨D99z, t99z, u99z, w99z, e99z, g99z, n99z⟩ := e99z); (cases e99z); (replace N99z := news_fresh f99z N99z g99z n99z); (clear f99z g99z n99z); (try dsimp only); (try k_fold)) | with_reducible (k_here; (with_reducible show wpAny _ _ (call (Value.ref 266) [Value.str _ _]) _ _ _); k_dflt (refine' Pure.use (fspath_c _ _ _) ?k1 ?k2 ?k3 ?k4 ?k5 ?kK ?kd ?ku trivial ?_; (((case k1 => k_asm); (case k2 => k_asm); (case k3 => k_asm); (case k4 => k_asm); (case k5 => k_asm); (case kK => first | exact rfl | assumption); (case kd => ktr_room); (case ku => ktr_units)))); intro v99z h99z tk99z F99z N99z e99z; (cases e99z); (try dsimp only); (try k_fold)) | walk1 | (dsimp only; walk1) | (leave1; walk_say "STEP leave1"; try dsimp only))
  · unfold Hold
    (rename Fr _ _ _ _ => lF'); (with_unfolding_all refine' For_invVF lF' ?k1 ?k2 ?_; (case k1 => exact rfl); (case k2 => exact rfl); k_whole)
    walk1
    rename (_ = Txt.split _ _) => eS
    refine loop1 [] (fun pre us => StrsAre us (normL (rootOf x) pre)) rfl (by k_asm) (by k_asm) ?_ ?_ ?_
    · exact .nil
    · intro us n pre d post t u h tk own e hoff hI F' N'
      have kM := kdMark
      obtain ⟨hdl, hul⟩ := turn_facts hx eS e hI
      have hrl := rootOf_le x
      have hI0 := hI
      repeat' (first | (k_unfold; (try dsimp only)) | (k_end; wrow_close) | with_reducible (k_here; (with_reducible show wpAny _ _ (binaryOp Operator.Add (Value.str _ _) (Value.str _ _)) _ _ _); k_dflt (refine addS (by rw [sizeLine_eq]; omega) ?_); intro t99z k99z hl99z; clear hl99z) | with_reducible (k_here; (with_reducible show wpAny _ _ (call (Value.builtin "str.join") [Value.str _ _, Value.ref _]) _ _ _); (with_reducible rename StrsAre _ _ => hSt99z); k_dflt (refine' join_listW (ys := ?ys) ?k1 ?k2 ?k3 ?k4 ?_; (case k1 => exact News.isList (by k_asm) (by k_mem)); (case k2 => simpa using hSt99z); (case k3 => decide); (case k4 => first | omega | (simp only [] at *; omega))); intro t99z k99z) | with_reducible (k_here; (with_reducible show wpAny _ _ (truthy (Value.ref _)) _ _ _); (with_reducible rename StrsAre _ _ => hSt99z); k_dflt (refine' txt_truthy ?N ?m hSt99z ?z ?_; (case N => k_asm); (case m => k_mem); (case z => first | omega | (simp only [List.length_append, List.length_cons, List.length_nil]; omega)))) | with_reducible (k_here; (with_reducible show wpAny _ _ (subscriptTail _ _ (Value.ref _) (Value.int (-1) _)) _ _ _); (with_reducible rename StrsAre _ _ => hSt99z); k_dflt (refine' txt_last ?N ?m hSt99z ?l ?_ ?z; (case N => k_asm); (case m => k_mem); (case l => with_reducible assumption); (case z => with_unfolding_all rfl)); intro y99z t99z e99z) | with_reducible (k_here; (with_reducible show wpAny _ _ (call (Value.builtin _) [Value.ref _]) _ _ _); (with_reducible rename StrsAre _ _ => hSt99z); k_dflt (refine' txt_pop ?F ?N ?U hSt99z ?l ?z ?_; (case F => k_asm); (case N => k_asm); (case U => k_upd); (case l => assumption); (case z => omega)); intro h9z y9z t9z F9z N9z hI9z) | with_reducible (k_here; (with_reducible show wpAny _ _ (call (Value.builtin "str.split") _) _ _ _); refine KSpl.split1 (by k_asm) (by k_asm) (by decide) ?_ (by (first | exact split_fits (by assumption) | exact split_fits (Nat.le_trans (restOf_le _) (by assumption)))); intro D9z l9z h9z k9z e9z a9z F9z N9z l19z; (try k_lt l19z)) | with_reducible (k_here; (with_reducible show wpAny _ _ (call (Value.ref 273) [Value.str _ _]) _ _ _); k_dflt (refine' Pure.use' (splitroot_c _ _ _ ?kx) ?k1 ?k2 ?k3 ?k4 ?k5 ?kK ?kd ?ku trivial ?_; (case kx => walk_at "my len"); (((case k1 => k_asm); (case k2 => k_asm); (case k3 => k_asm); (case k4 => k_asm); (case k5 => k_asm); (case kK => first | exact rfl | assumption); (case kd => ktr_room); (case ku => ktr_units)))); intro v99z h99z tk99z F99z N99z f99z e99z; (obtain ⟨D99z, t99z, u99z, w99z, e99z, g99z, n99z⟩ := e99z); (cases e99z); (replace N99z := news_fresh f99z N99z g99z n99z); (clear f99z g99z n99z); (try dsimp only); (try k_fold)) | with_reducible (k_here; (with_reducible show wpAny _ _ (call (Value.ref 266) [Value.str _ _]) _ _ _); k_dflt (refine' Pure.use (fspath_c _ _ _) ?k1 ?k2 ?k3 ?k4 ?k5 ?kK ?kd ?ku trivial ?_; (((case k1 => k_asm); (case k2 => k_asm); (case k3 => k_asm); (case k4 => k_asm); (case k5 => k_asm); (case kK => first | exact rfl | assumption); (case kd => ktr_room); (case ku => ktr_units)))); intro v99z h99z tk99z F99z N99z e99z; (cases e99z); (try dsimp only); (try k_fold)) | walk1 | (dsimp only; walk1) | (leave1; walk_say "STEP leave1"; try dsimp only))
      all_goals (rw [normL_snoc]; have hE := strs_nil hI; have hSn := strs_snoc (y := d) (t := t) hI; unfold normStep; simp only [str_empty])
      all_goals (generalize normL (rootOf x) pre = acc at *)
      all_goals (clear e eS hoff kM; (try simp only [Int.natCast_eq_zero, ne_eq] at *); simp_all)
    · intro us n u h tk hI F' N'
      have hw := done_facts hx eS
      rw [eS] at hI hw
      have hj := join_le (sep := Str.ofString "/") hw (by decide)
      have hrl := rootOf_le x
      clear eS
      repeat' (first | (k_unfold; (try dsimp only)) | (k_end; wrow_close) | with_reducible (k_here; (with_reducible show wpAny _ _ (binaryOp Operator.Add (Value.str _ _) (Value.str _ _)) _ _ _); k_dflt (refine addS (by rw [sizeLine_eq]; omega) ?_); intro t99z k99z hl99z; clear hl99z) | with_reducible (k_here; (with_reducible show wpAny _ _ (call (Value.builtin "str.join") [Value.str _ _, Value.ref _]) _ _ _); (with_reducible rename StrsAre _ _ => hSt99z); k_dflt (refine' join_listW (ys := ?ys) ?k1 ?k2 ?k3 ?k4 ?_; (case k1 => exact News.isList (by k_asm) (by k_mem)); (case k2 => simpa using hSt99z); (case k3 => decide); (case k4 => first | omega | (simp only [] at *; omega))); intro t99z k99z) | with_reducible (k_here; (with_reducible show wpAny _ _ (truthy (Value.ref _)) _ _ _); (with_reducible rename StrsAre _ _ => hSt99z); k_dflt (refine' txt_truthy ?N ?m hSt99z ?z ?_; (case N => k_asm); (case m => k_mem); (case z => first | omega | (simp only [List.length_append, List.length_cons, List.length_nil]; omega)))) | with_reducible (k_here; (with_reducible show wpAny _ _ (subscriptTail _ _ (Value.ref _) (Value.int (-1) _)) _ _ _); (with_reducible rename StrsAre _ _ => hSt99z); k_dflt (refine' txt_last ?N ?m hSt99z ?l ?_ ?z; (case N => k_asm); (case m => k_mem); (case l => with_reducible assumption); (case z => with_unfolding_all rfl)); intro y99z t99z e99z) | with_reducible (k_here; (with_reducible show wpAny _ _ (call (Value.builtin _) [Value.ref _]) _ _ _); (with_reducible rename StrsAre _ _ => hSt99z); k_dflt (refine' txt_pop ?F ?N ?U hSt99z ?l ?z ?_; (case F => k_asm); (case N => k_asm); (case U => k_upd); (case l => assumption); (case z => omega)); intro h9z y9z t9z F9z N9z hI9z) | with_reducible (k_here; (with_reducible show wpAny _ _ (call (Value.builtin "str.split") _) _ _ _); refine KSpl.split1 (by k_asm) (by k_asm) (by decide) ?_ (by (first | exact split_fits (by assumption) | exact split_fits (Nat.le_trans (restOf_le _) (by assumption)))); intro D9z l9z h9z k9z e9z a9z F9z N9z l19z; (try k_lt l19z)) | with_reducible (k_here; (with_reducible show wpAny _ _ (call (Value.ref 273) [Value.str _ _]) _ _ _); k_dflt (refine' Pure.use' (splitroot_c _ _ _ ?kx) ?k1 ?k2 ?k3 ?k4 ?k5 ?kK ?kd ?ku trivial ?_; (case kx => walk_at "my len"); (((case k1 => k_asm); (case k2 => k_asm); (case k3 => k_asm); (case k4 => k_asm); (case k5 => k_asm); (case kK => first | exact rfl | assumption); (case kd => ktr_room); (case ku => ktr_units)))); intro v99z h99z tk99z F99z N99z f99z e99z; (obtain ⟨D99z, t99z, u99z, w99z, e99z, g99z, n99z⟩ := e99z); (cases e99z); (replace N99z := news_fresh f99z N99z g99z n99z); (clear f99z g99z n99z); (try dsimp only); (try k_fold)) | with_reducible (k_here; (with_reducible show wpAny _ _ (call (Value.ref 266) [Value.str _ _]) _ _ _); k_dflt (refine' Pure.use (fspath_c _ _ _) ?k1 ?k2 ?k3 ?k4 ?k5 ?kK ?kd ?ku trivial ?_; (((case k1 => k_asm); (case k2 => k_asm); (case k3 => k_asm); (case k4 => k_asm); (case k5 => k_asm); (case kK => first | exact rfl | assumption); (case kd => ktr_room); (case ku => ktr_units)))); intro v99z h99z tk99z F99z N99z e99z; (cases e99z); (try dsimp only); (try k_fold)) | walk1 | (dsimp only; walk1) | (leave1; walk_say "STEP leave1"; try dsimp only))
      all_goals ((((with_reducible show Kept _ _ _ _); intro hSt9z; (rename ∀ (v : Value) (h' : Heap) (tk' : Nat), _ => hRet9z); refine hRet9z _ _ _ (by assumption) hSt9z ?_; clear hSt9z hRet9z)); refine str_end ?_; unfold normF normP; first | rw [if_neg (by omega), if_neg (by omega)] | rw [if_neg (by omega), if_pos (by omega)])
  · (((with_reducible show Kept _ _ _ _); intro hSt9z; (rename ∀ (v : Value) (h' : Heap) (tk' : Nat), _ => hRet9z); refine hRet9z _ _ _ (by assumption) hSt9z ?_; clear hSt9z hRet9z))
    refine str_end ?_; unfold normF; rw [if_pos (by omega)]
end

theorem at_D1 : True := by w_top off; trivial
theorem plainAttrs_re : PlainAttrs "re.Pattern" :=
  ⟨⟨"object.__getattribute__", by rw [typeLookup_type, builtinLookup_eq_fast]; kernel_rfl, by decide +kernel⟩, by rw [typeLookup_type, builtinLookup_eq_fast]; kernel_rfl⟩
theorem slot_re_search : Slot "re.Pattern" "search" "re.Pattern.search" :=
  .of (owner := "re.Pattern") (n := "search") (by rw [typeLookup_type, builtinLookup_eq_fast]; kernel_rfl) (by decide +kernel) (by decide +kernel) (by decide +kernel)
    (by first | exact .inl (by decide +kernel) | exact .inr (by decide +kernel)) (by rw [isSubtype_type]; kernel_rfl)
theorem type_re_search : typeOf (.builtin "re.Pattern.search") = pure (.type "method_descriptor") := by show builtinType _ = _; rw [builtinType_eq_fast]; kernel_rfl
theorem entry_re_search : entryFor table "re.Pattern.search" = some Builtin.«re.Pattern.search» := entryFor_of_tree (by kernel_rfl)
theorem args_re_search (a b : Value) : argsOk "re.Pattern.search" ⟨[a, b], []⟩ := by
  unfold argsOk; kernel_rfl
section
variable {prog : Program} {w : World} {A : Around} {E : Value → Shared → Prop} {s : Shared}
theorem rules_loop {f : Nat → Bool} {nm : Nat → String} : ∀ (l : List Nat) (s : Shared) (Q : PUnit → Shared → Prop), Q PUnit.unit s →
    wpAny (model prog w) A (forIn l PUnit.unit fun i (_ : PUnit) => (if f i = true then (do rule (nm i); pure (ForInStep.yield PUnit.unit)) else pure (ForInStep.yield PUnit.unit) : Sem (ForInStep PUnit))) Q E s
  | [], s, Q, h => by rw [List.forIn_nil]; exact wpAny_pure h
  | i :: r, s, Q, h => by
    rw [List.forIn_cons]
    refine wpAny_bind ?_
    by_cases hf : f i = true
    · rw [if_pos hf]
      exact wpAny_bind (wpAny_rule (wpAny_pure (rules_loop r s Q h)))
    · rw [if_neg hf]
      exact wpAny_pure (rules_loop r s Q h)
theorem reAnswer_none {t : Builtin.Re.ReTarget} {m : Sre.M} {Q : Fin → Shared → Prop} (h : (m.runFor 4).outcome = some .failed) (hq : Q (.done (.ret .none)) s) : wpAny (model prog w) A (Builtin.Re.reAnswer t m) Q E s := by
  unfold Builtin.Re.reAnswer Builtin.Re.reRunToEnd
  refine wpAny_bind (wpAny_bind ?_)
  have e : Builtin.Re.reDrive (2 ^ 64) m = pure (m.runFor 4) := by
    show Builtin.Re.reDrive ((2 ^ 64 - 1) + 1) m = _
    unfold Builtin.Re.reDrive
    show (if (m.runFor 4).outcome.isSome = true then _ else _) = _
    rw [h]; rfl
  rw [e]
  refine wpAny_pure (wpAny_bind (rules_loop _ _ _ ?_))
  rw [h]
  exact wpAny_pure (wpAny_pure hq)
theorem search_none {a c : Addr} {p fl : Value} {items : Array Value} {x : Str} {t : Tok} {Q : Fin → Shared → Prop}
    (h1 : s.heap.get? a = some ⟨.type "re.Pattern", none, .fields #[p, fl, .int 0 0, .none, .none, .ref c, .int 0 0], #[]⟩)
    (h2 : s.heap.get? c = some ⟨.type "tuple", none, .seq items 0, #[]⟩)
    (hx : x.length ≤ 100000)
    (hm : (Sre.M.runFor 4 (Sre.forSearch ((items.map Builtin.Re.reRawOf).map (·.toNat)) x.cps 0 0 x.cps.size false)).outcome = some .failed) (hq : Q (.done (.ret .none)) s) :
    wpAny (model prog w) A (Builtin.«re.Pattern.search» ⟨[.ref a, .str x t], []⟩) Q E s := by
  obtain ⟨h, g, d, tk, os⟩ := s
  have e : min ((2 : Int) ^ 63 - 1).toNat x.cps.size = x.cps.size := Nat.min_eq_right (by have : x.cps.size ≤ 100000 := hx; have h2 : ((2 : Int) ^ 63 - 1).toNat = 9223372036854775807 := by decide
                                                                                          omega)
  have e0 : min (0 : Int).toNat x.cps.size = 0 := Nat.zero_min _
  repeat (any_goals (first | assumption | ((with_reducible show wpAny _ _ (Builtin.Re.reAnswer _ _) _ _ _); refine reAnswer_none ?_ ?_) | wp_step))
  dsimp only
  rw [e, e0]
  exact hm
end

theorem at_D2 : True := by w_top off; trivial
noncomputable def nameCode : Array Nat := #[14, 10, 4, 1, 1, 22, 0, 31, 16, 127, 0, 13, 7, 22, 0, 31, 16, 127, 0, 1]
noncomputable def valueCode : Array Nat := #[14, 14, 4, 1, 1, 9, 4294966783, 0, 0, 2147483648, 0, 0, 0, 0, 0, 13, 11, 9, 4294966783, 0, 0, 2147483648, 0, 0, 0, 0, 0, 1]
/-- the signs of a text lie in 32 .. 126 -/
noncomputable def Printable (x : Str) : Prop := ∀ c ∈ x.cps.toList, 32 ≤ c ∧ c ≤ 126
theorem inSet_name (c : Nat) (h1 : 32 ≤ c) (h2 : c ≤ 126) (seen : Sre.Seen) : ∃ seen', Sre.inSet nameCode c nameCode.size 5 true seen = .ok (false, seen') := by
  have e1 : ¬ c ≤ 31 := by omega
  have e2 : (c == 127) = false := by simp; omega
  have s1 : Sre.inSet nameCode c 20 5 true seen = Sre.inSet nameCode c 19 8 true (seen.add 22) := by
    show (if (decide (0 ≤ c) && decide (c ≤ 31)) = true then _ else Sre.inSet nameCode c 19 8 true _) = _
    rw [if_neg (by simp [e1])]; rfl
  have s2 : ∀ sn, Sre.inSet nameCode c 19 8 true sn = Sre.inSet nameCode c 18 10 true (sn.add 16) := fun sn => by
    show (if (c == 127) = true then _ else Sre.inSet nameCode c 18 10 true _) = _
    rw [if_neg (by simp [e2])]; rfl
  exact ⟨_, s1.trans (s2 _)⟩
theorem charset_no : ∀ c, c < 127 → 32 ≤ c → (valueCode.getD (5 + (1 + c / 32)) 0).testBit (c % 32) = false := by decide
theorem inSet_value (c : Nat) (h1 : 32 ≤ c) (h2 : c ≤ 126) (seen : Sre.Seen) : ∃ seen', Sre.inSet valueCode c valueCode.size 5 true seen = .ok (false, seen') := by
  have e := charset_no c (by omega) h1
  have s1 : Sre.inSet valueCode c 28 5 true seen = Sre.inSet valueCode c 27 14 true (seen.add 9) := by
    show (if (decide (c < 256) && (valueCode.getD (5 + (1 + c / 32)) 0).testBit (c % 32)) = true then _ else Sre.inSet valueCode c 27 14 true _) = _
    rw [e, Bool.and_false, if_neg (by simp)]; rfl
  exact ⟨_, s1⟩
theorem admitted_none {m : Sre.M} (H : ∀ i, i < m.lim → ∀ seen, ∃ seen', Sre.inSet m.code (m.text.getD i 0) m.code.size 5 true seen = .ok (false, seen')) :
    ∀ (fuel s : Nat) (seen : Sre.Seen), ∃ seen', Sre.M.admitted m fuel s seen = .ok (none, seen')
  | 0, _, seen => ⟨seen, rfl⟩
  | fuel + 1, s, seen => by
    unfold Sre.M.admitted
    by_cases h : s ≥ m.lim
    · exact ⟨seen, by rw [if_pos h]⟩
    · rw [if_neg h]
      obtain ⟨seen', e⟩ := H s (by omega) seen
      rw [e]
      exact admitted_none H fuel (s + 1) seen'
theorem say_failed {m : Sre.M} (h0 : m.outcome = none) (hf : m.frames = []) : (Sre.M.runFor 4 (m.say false)).outcome = some .failed := by
  obtain ⟨code, text, lim, start, ls, wt, ma, pc, pos, handed, om, marks, lm, li, loops, inner, frames, weight, answer, seen, outcome⟩ := m
  have h0' : outcome = none := h0
  have hf' : frames = [] := hf
  subst h0' hf'
  rfl
theorem attemptFrom_none {m : Sre.M} {s : Nat} {first : Bool} (hf : m.hasFirstSet = true) (H : ∀ i, i < m.lim → ∀ seen, ∃ seen', Sre.inSet m.code (m.text.getD i 0) m.code.size 5 true seen = .ok (false, seen'))
    (h0 : m.outcome = none) (hfr : m.frames = []) : (Sre.M.runFor 4 (m.attemptFrom s first)).outcome = some .failed := by
  unfold Sre.M.attemptFrom
  obtain ⟨seen', e⟩ := admitted_none H (m.lim + 1 - s) s m.seen
  rw [hf, e]
  exact say_failed h0 hfr
theorem text_ok {x : Str} (hx : Printable x) {i : Nat} (hi : i < x.cps.size) : 32 ≤ x.cps.getD i 0 ∧ x.cps.getD i 0 ≤ 126 := by
  have e : x.cps.getD i 0 = x.cps[i] := by simp [Array.getD, hi]
  rw [e]
  exact hx _ (by simp)
theorem search_fails {code : Array Nat} {x : Str} (hh : (Sre.header code).1 = 1) (hf : ((match Sre.ops[code.getD 0 0]? with | some .INFO => true | _ => false) && code.getD 2 0 == 4) = true)
    (H : ∀ c, 32 ≤ c → c ≤ 126 → ∀ seen, ∃ seen', Sre.inSet code c code.size 5 true seen = .ok (false, seen')) (hx : Printable x) :
    (Sre.M.runFor 4 (Sre.forSearch code x.cps 0 0 x.cps.size false)).outcome = some .failed := by
  unfold Sre.forSearch
  dsimp only
  split
  · exact say_failed rfl rfl
  · exact attemptFrom_none hf (fun i hi seen => H _ (text_ok hx hi).1 (text_ok hx hi).2 seen) rfl rfl
theorem name_fails {x : Str} (hx : Printable x) : (Sre.M.runFor 4 (Sre.forSearch nameCode x.cps 0 0 x.cps.size false)).outcome = some .failed :=
  search_fails rfl rfl inSet_name hx
theorem value_fails {x : Str} (hx : Printable x) : (Sre.M.runFor 4 (Sre.forSearch valueCode x.cps 0 0 x.cps.size false)).outcome = some .failed :=
  search_fails rfl rfl inSet_value hx

theorem at_D3 : True := by w_top off; trivial
noncomputable abbrev PureK (n : Nat) (w : World) (f : Addr) (vs : List Value) (kw : List (Str × Value)) (pre : Heap → Prop) (R : Heap → Heap → Value → Prop) : Prop :=
  ∀ (mean : ExcName → Option Value) (mg mb : Str → Option Value) (dp un : Nat) (gd : Option (List Code)) (cn : Str) (cs : Scope) (a : Addr) (ccd : Value) (cl : List (Str × Addr)) (outer : List Env) (A₀ : Around) (base h₀ : Heap) (L : Addr) (m : Str → Option Value) (s : Shared) (Q E : Value → Shared → Prop),
    Below A₀ base outer h₀ → Fr h₀ L s.heap m → (Mine.hd.heap_39 w.params).In h₀ → Top Mine.view lse mean mg mb h₀ → cs.kind = .function →
    dp + n < recursionLimit → un + 8 * n < cLine → pre s.heap → (∀ (v : Value) (h' : Heap) (tk' : Nat), Fr h₀ L h' m → s.heap.StaysIn h' → R s.heap h' v → Q v { s with heap := h', toks := tk' }) →
      wpAny (model PySem.Challenge.rw_ny0294_01.row.prog w) (ktrTop dp un gd cn cs L a ccd cl outer) (call (.ref f) vs kw) Q E s
section
variable {prog : Program} {w : World} {A : Around} {E : Value → Shared → Prop} {s : Shared} {K : Frag} {h₀ : Heap} {L : Addr} {m : Str → Option Value}
theorem re_method {a : Addr} {vs : Array Value} {pl : Sem Bool} {Q : Value × List Value → Shared → Prop} (F : Fr h₀ L s.heap m) (X₀ : K.In h₀) (hl : K.lookup a = some ⟨.type "re.Pattern", none, .fields vs, #[]⟩)
    (h : Q (.builtin "re.Pattern.search", [.ref a]) s) : wpAny (model prog w) A (getMethod (.ref a) (Str.ofString "search") pl) Q E s :=
  have X := X₀.keeps F.keep
  getMethod_builtin ⟨_, X _ _ hl, rfl⟩ plainAttrs_re slot_re_search type_re_search (fun b e => by cases e; exact ⟨_, X _ _ hl, rfl⟩) h
theorem re_search {a c : Addr} {p fl : Value} {items : Array Value} {x : Str} {t : Tok} {code : Array Nat} {Q : Value → Shared → Prop} (F : Fr h₀ L s.heap m) (X₀ : K.In h₀)
    (hl : K.lookup a = some ⟨.type "re.Pattern", none, .fields #[p, fl, .int 0 0, .none, .none, .ref c, .int 0 0], #[]⟩) (hc : K.lookup c = some ⟨.type "tuple", none, .seq items 0, #[]⟩)
    (hcode : (items.map Builtin.Re.reRawOf).map (·.toNat) = code) (hx : x.length ≤ 100000) (hm : (Sre.M.runFor 4 (Sre.forSearch code x.cps 0 0 x.cps.size false)).outcome = some .failed)
    (h : Q .none s) : wpAny (model prog w) A (call (.builtin "re.Pattern.search") [.ref a, .str x t]) Q E s := by
  have X := X₀.keeps F.keep
  refine call_meets slot_re_search ⟨_, X _ _ hl, rfl⟩ entry_re_search (args_re_search _ _) (S := fun _ R s => s.heap.get? a = some ⟨.type "re.Pattern", none, .fields #[p, fl, .int 0 0, .none, .none, .ref c, .int 0 0], #[]⟩ ∧ s.heap.get? c = some ⟨.type "tuple", none, .seq items 0, #[]⟩ ∧ R (.ok (.ret .none)) s)
    (fun _ _ _ _ _ hs => search_none hs.1 hs.2.1 hx (by rw [hcode]; exact hm) hs.2.2) ⟨X _ _ hl, X _ _ hc, h⟩
end
theorem conv_c (w : World) (self : Addr) (x : Str) (t : Tok) (b : Bool) (hx : x.length ≤ 100000) (hp : Printable x) : PureK 1 w 83 [.ref self, .str x t] [(Str.ofString "name", .bool b)] (fun _ => True) (fun _ _ v => v = .str x t) := by
  ((intro mean9z mg9z mb9z dp9z un9z gd9z cn9z cs9z a9z ccd9z cl9z outer9z A₀9z base9z h₀9z L9z m9z s9z Q9z E9z B9z F9z X9z T9z hk9z hdp9z hun9z hpre9z hret9z; refine wpAny_call ?_; k_dflt (((refine' enter0 ?k1 ?k2 ?k3 ?k5 ?kA ?kF ?kK ?k6 ?k7 ?k8 ?k9 ?kB ?_ ?c2 ?c3 ?c4 ?c5; (((case kA => exact rfl); (case kF => exact rfl); (case kK => first | exact rfl | assumption); (case k1 => k_asm); (case k2 => k_asm); (case k3 => k_asm); (try (case k4 => k_asm)); (case k5 => k_asm); (case k6 => k_is); (case k7 => k_is); (case k8 => ktr_room); (try (case k9 => first | exact BindsTo.of_eq rfl | (refine' kp_binds ?kx ?ke; (case kx => k_in); (case ke => exact fun _ => rfl)))))); (((try (case c5 => decide)); (try (case kB => exact locs rfl)); (case c2 => exact rfl); (case c3 => exact rfl); (case c4 => exact rfl); k_whole)); intro g9z L9z h9z FG9z F9z N9z B9z X9z T9z St9z; (try dsimp only); (try k_lift B9z); (try k_fold))))))
  repeat' (first | (k_unfold; (try dsimp only)) | (k_end; wrow_close) | with_reducible (k_here; (with_reducible show wpAny _ _ (call (Value.builtin "re.Pattern.search") [Value.ref 53, Value.str _ _]) _ _ _); k_dflt (refine' re_search (code := valueCode) ?k1 ?k2 ?k3 ?k4 ?k5 ?k6 ?k7 ?_; (case k1 => k_asm); (case k2 => k_asm); (case k3 => k_is); (case k4 => k_is); (case k5 => decide +kernel); (case k6 => assumption); (case k7 => exact value_fails (by assumption)))) | with_reducible (k_here; (with_reducible show wpAny _ _ (call (Value.builtin "re.Pattern.search") [Value.ref 48, Value.str _ _]) _ _ _); k_dflt (refine' re_search (code := nameCode) ?k1 ?k2 ?k3 ?k4 ?k5 ?k6 ?k7 ?_; (case k1 => k_asm); (case k2 => k_asm); (case k3 => k_is); (case k4 => k_is); (case k5 => decide +kernel); (case k6 => assumption); (case k7 => exact name_fails (by assumption)))) | with_reducible (k_here; (with_reducible show wpAny _ _ (getMethod (Value.ref _) (Str.ofString "search") _) _ _ _); k_dflt (refine' re_method ?k1 ?k2 ?k3 ?_; (case k1 => k_asm); (case k2 => k_asm); (case k3 => k_is))) | walk1 | (dsimp only; walk1) | (leave1; walk_say "STEP leave1"; try dsimp only))
  all_goals ((((with_reducible show Kept _ _ _ _); intro hSt9z; (rename ∀ (v : Value) (h' : Heap) (tk' : Nat), _ => hRet9z); refine hRet9z _ _ _ (by assumption) hSt9z ?_; clear hSt9z hRet9z)); rfl)
theorem PureK.use {n : Nat} {w : World} {f : Addr} {vs : List Value} {kw : List (Str × Value)} {pre : Heap → Prop} {R : Heap → Heap → Value → Prop} (C : PureK n w f vs kw pre R)
    {mean : ExcName → Option Value} {mg mb : Str → Option Value} {dp un : Nat} {gd : Option (List Code)} {cn : Str} {cs : Scope} {a : Addr} {ccd : Value} {cl : List (Str × Addr)} {outer : List Env} {A₀ : Around} {base h₀ : Heap} {L : Addr} {m : Str → Option Value} {s : Shared} {Q E : Value → Shared → Prop} {news : List (Addr × Obj)}
    (B : Below A₀ base outer h₀) (F : Fr h₀ L s.heap m) (X : (Mine.hd.heap_39 w.params).In h₀) (N : News h₀ L s.heap news) (T : Top Mine.view lse mean mg mb h₀) (hk : cs.kind = .function)
    (hd : dp + n < recursionLimit) (hu : un + 8 * n < cLine) (hp : pre s.heap) (ret : ∀ (v : Value) (h' : Heap) (tk' : Nat), Fr h₀ L h' m → News h₀ L h' news → R s.heap h' v → Q v { s with heap := h', toks := tk' }) :
    wpAny (model PySem.Challenge.rw_ny0294_01.row.prog w) (ktrTop dp un gd cn cs L a ccd cl outer) (call (.ref f) vs kw) Q E s :=
  C mean mg mb dp un gd cn cs a ccd cl outer A₀ base h₀ L m s Q E B F X T hk hd hu hp fun v h' tk' F' st r => ret v h' tk' F' (fun p hp => ⟨st _ _ (N p hp).1, (N p hp).2⟩) r

theorem at_D4 : True := by w_top off; trivial
section
variable {prog : Program} {w : World} {A A₀ : Around} {E : Value → Shared → Prop} {s : Shared} {K : Frag} {C L : Addr} {h₀ base : Heap} {m mg mb : Str → Option Value} {news : List (Addr × Obj)} {p : Program} {loose : List Str} {mean : ExcName → Option Value} {Q : Value → Shared → Prop}
theorem enterP {env : Env} {outer : List Env} {R : Result → Shared → Prop} {name qual : Str} {params : Arguments} {body : List Stmt} {scope : Scope} {dV kV doc pm cdv ct oc : Value} {an od : Option Addr} {osl : Array (Option Value)} {f : Addr} {args : Args} {binds : List (Str × Value)}
    (B : Below A₀ base outer h₀) (F : Fr h₀ L s.heap m) (X₀ : K.In h₀) (T : Top p loose mean mg mb h₀) (hA : A.frames = some (env :: outer)) (hf : env.frame = some L) (hke : env.scope.kind = .function)
    (ho : K.lookup f = some ⟨oc, od, .func (fnOf name qual params body scope dV kV doc pm an cdv ct), osl⟩) (hcd : codeIn K cdv qual = true) (hroom : A.depth < recursionLimit)
    (hbind : BindsTo s (fnOf name qual params body scope dV kV doc pm an cdv ct) args binds) (hloc : ∀ y ∈ binds, scope.names.lookup y.1 = some .local) (hb : 0 < binds.length)
    (h : ∀ g L' h₁ tk, 0 < tk → Fr h₀ L g m → Fr g L' h₁ (fun y => binds.reverse.lookup y) → News g L' h₁ [] → Below A base (env :: outer) g → K.In g → Top p loose mean mg mb g → s.heap.StaysIn g →
      wpAny (model prog w) (A.deeper (envOf qual scope L' f cdv)) (execs body (envOf qual scope L' f cdv))
        (fun fl s' => LeaveK h₀ L m g (Kept s.heap R) (match fl with | .ret v => v | _ => .none) s')
        (fun e s' => wpAny (model prog w) (A.deeper (envOf qual scope L' f cdv)) (leaving (envOf qual scope L' f cdv) e) (fun _ s'' => R (.error e) s'') (fun e' s'' => R (.error e') s'') s')
        { s with heap := h₁, toks := tk })
    (hco : scope.isCoroutine = false) (hgen : scope.isGenerator = false) (hk : scope.kind = .function)
    (hcell : ∀ x ∈ scope.names, x.2 ≠ .cell) : codeAny (model prog w) A (.call (.ref f) args) R s :=
  enter0 B F X₀ T hA hf hke ho hcd hroom hbind hloc (fun g L' h₁ a b c d e f' g' => h g L' h₁ (s.toks + binds.length) (by omega) a b c d e f' g') hco hgen hk hcell
theorem execs_pos {M : Model} {st : Stmt} {rest : List Stmt} {env : Env} {Q : Flow → Shared → Prop} (h0 : 0 < s.toks)
    (h : wpAny M A (exec st env) (fun f s' => 0 < s'.toks → (match f with | .next => wpAny M A (execs rest env) Q E s' | f => Q f s')) E s) : wpAny M A (execs (st :: rest) env) Q E s :=
  wpAny_execs_cons (wpAny_mono (wpAny_toks_of (n := 1) h0 h) (fun f s' x => x.2 x.1) fun _ _ x => x.2)
end
local macro_rules | `(tactic| walk_at "my print") => `(tactic| first | assumption | (intro c hc; revert c; decide))
theorem replace_le (x y z : Str) (c : Nat) (hy : y = ⟨#[c]⟩) : (Txt.replace x y z).length ≤ (x.length + 1) * (1 + z.length) := by
  subst hy
  rw [StrLaws.replace_one]
  have h1 := StrLaws.join_length_le z (Txt.split x ⟨#[c]⟩)
  have h2 := wt_split x ⟨#[c]⟩ rfl
  unfold wt at h2
  have h3 : (Txt.split x ⟨#[c]⟩).length * z.length ≤ (x.length + 1) * z.length := Nat.mul_le_mul_right _ (by omega)
  have h4 : (x.length + 1) * (1 + z.length) = (x.length + 1) + (x.length + 1) * z.length := by rw [Nat.mul_add, Nat.mul_one]
  omega
theorem replace_call {prog : Program} {w : World} {A : Around} {E : Value → Shared → Prop} {s : Shared} {x y z : Str} {t u v : Tok} {Q : Value → Shared → Prop} (c : Nat) (hy : y = ⟨#[c]⟩) (hu : u ≠ 0) (hv : v ≠ 0) (huv : u ≠ v) (hyz : (y == z) = false) (hx : x.length ≤ 1048576) (hz : z.length ≤ 14)
    (hq : ∀ t' k, s.toks ≤ k → (Txt.replace x y z).length ≤ (x.length + 1) * (1 + z.length) → Q (.str (Txt.replace x y z) t') { s with toks := k }) : wpAny (model prog w) A (call (.builtin "str.replace") [.str x t, .str y u, .str z v]) Q E s :=
  wpAny_with_toks (Nat.le_refl _) (SC.replaceW hu hv huv hyz hx hz fun t' k hk => hq t' k hk (replace_le x y z c hy))
noncomputable def escF (x : Str) : Str := Txt.replace (Txt.replace x (Str.ofString "\\") (Str.ofString "\\\\")) (Str.ofString "\"") (Str.ofString "\\\"")
noncomputable def fmtF (p x : Str) : Str := if x.length = 0 then p else Str.empty ++ p ++ Str.ofString "=\"" ++ escF x ++ Str.ofString "\""
section
local macro_rules | `(tactic| walk_at "execs cons") => `(tactic| (k_here; refine execs_pos (by (dsimp only); first | exact Nat.succ_pos _ | omega) ?_))
local macro_rules | `(tactic| walk_at "my pad") => `(tactic| fail)
theorem formatparam_c (w : World) (p x : Str) (t u : Tok) (hp : p.length ≤ 1000) (hx : x.length ≤ 10000) : Pure 1 w 61 [.str p t, .str x u] (fun _ => True) (fun _ _ v => ∃ t, v = .str (fmtF p x) t) := by
  ((intro mean9z mg9z mb9z dp9z un9z gd9z cn9z cs9z a9z ccd9z cl9z outer9z A₀9z base9z h₀9z L9z m9z s9z Q9z E9z B9z F9z X9z T9z hk9z hdp9z hun9z hpre9z hret9z; refine wpAny_call ?_; k_dflt (((refine' enterP ?k1 ?k2 ?k3 ?k5 ?kA ?kF ?kK ?k6 ?k7 ?k8 ?k9 ?kB ?kL ?_ ?c2 ?c3 ?c4 ?c5; (((case kA => exact rfl); (case kF => exact rfl); (case kK => first | exact rfl | assumption); (case k1 => k_asm); (case k2 => k_asm); (case k3 => k_asm); (try (case k4 => k_asm)); (case k5 => k_asm); (case k6 => k_is); (case k7 => k_is); (case k8 => ktr_room); (try (case k9 => first | exact BindsTo.of_eq rfl | (refine' kp_binds ?kx ?ke; (case kx => k_in); (case ke => exact fun _ => rfl)))))); (case kL => exact Nat.le_of_ble_eq_true rfl); (((try (case c5 => decide)); (try (case kB => exact locs rfl)); (case c2 => exact rfl); (case c3 => exact rfl); (case c4 => exact rfl); k_whole)); intro g9z L9z h9z tk9z htk9z FG9z F9z N9z B9z X9z T9z St9z; (try dsimp only); (try k_lift B9z); (try k_fold))))))
  repeat' (first | (k_unfold; (try dsimp only)) | (k_end; wrow_close) | with_reducible (k_here; (with_reducible show wpAny _ _ (call (Value.builtin "str.replace") [Value.str _ _, Value.str _ _, Value.str _ _]) _ _ _); refine replace_call _ (by first | (with_unfolding_all exact (rfl : Str.ofString "\\" = ⟨#[92]⟩)) | (with_unfolding_all exact (rfl : Str.ofString "\"" = ⟨#[34]⟩)) | (with_unfolding_all exact (rfl : Str.ofString "_" = ⟨#[95]⟩))) (by (show @Ne Nat _ _); first | exact Nat.succ_ne_zero _ | exact Nat.ne_of_gt (by with_reducible assumption) | omega) (by (show @Ne Nat _ _); first | exact Nat.succ_ne_zero _ | exact Nat.ne_of_gt (by with_reducible assumption) | omega) (by (show @Ne Nat _ _); first | exact Nat.succ_ne_zero _ | exact Nat.ne_of_gt (by with_reducible assumption) | omega) (by decide) (by omega) (by decide) ?_; intro t99z k99z hk99z hl99z; (simp only [show (Str.ofString "\\\\").length = 2 from rfl, show (Str.ofString "\\\"").length = 2 from rfl, show (Str.ofString "-").length = 1 from rfl] at hl99z); (dsimp only at hk99z)) | walk1 | (dsimp only; walk1) | (leave1; walk_say "STEP leave1"; try dsimp only))
  all_goals ((((with_reducible show Kept _ _ _ _); intro hSt9z; (rename ∀ (v : Value) (h' : Heap) (tk' : Nat), _ => hRet9z); refine hRet9z _ _ _ (by assumption) hSt9z ?_; clear hSt9z hRet9z)); refine ⟨_, congrArg (fun y => Value.str y _) ?_⟩; unfold fmtF escF; first | rw [if_neg (by omega)] | rw [if_pos (by omega)])
end

theorem at_D5 : True := by w_top off; trivial
noncomputable abbrev hdDict (w : World) (t : Tok) (l : Addr) : Obj := dictOf [⟨PyData.keyHash w.params (Str.ofString "_headers"), .str (Str.ofString "_headers") t, .ref l⟩] 1
theorem join_one (sep x : Str) : Txt.join sep [x] = x := rfl
theorem news_drop3 {h₀ h : Heap} {L : Addr} {a b c d : Addr × Obj} {tl : List (Addr × Obj)} (N : News h₀ L h (a :: b :: c :: d :: tl)) : News h₀ L h (a :: tl) :=
  fun p hp => N p (by rcases List.mem_cons.mp hp with rfl | hp; exact .head _; exact .tail _ (.tail _ (.tail _ (.tail _ hp))))
theorem allLt_ne {d : Nat} : ∀ {l : List (Addr × Obj)}, AllLt d l → ∀ p ∈ l, @Ne Nat p.1 d
  | [], _, _, h => nomatch h
  | _ :: _, x, p, h => by
    rcases List.mem_cons.mp h with rfl | h
    · exact Nat.ne_of_lt x.1
    · exact allLt_ne x.2 p h
theorem add0_c (w : World) (self dx l : Addr) (us : List Value) (n : Nat) (th : Tok) (nm x : Str) (t1 t2 : Tok) (rest : List (Addr × Obj)) (hnl : nm.length ≤ 1000) (hnp : Printable nm) (hxl : x.length ≤ 10000) (hxp : Printable x) (hus : us.length ≤ 1000)
    (hoff : OwnOff rest [l, self, dx]) (hn1 : l ≠ self) (hn2 : l ≠ dx) (hn3 : dx ≠ self) :
  ∀ (mean : ExcName → Option Value) (mg mb : Str → Option Value) (dp un : Nat) (gd : Option (List Code)) (cn : Str) (cs : Scope) (a : Addr) (ccd : Value) (cl : List (Str × Addr)) (outer : List Env) (A₀ : Around) (base h₀ : Heap) (L : Addr) (m : Str → Option Value) (s : Shared) (Q E : Value → Shared → Prop),
    Below A₀ base outer h₀ → Fr h₀ L s.heap m → (Mine.hd.heap_39 w.params).In h₀ → Top Mine.view lse mean mg mb h₀ → cs.kind = .function →
    dp + 2 < recursionLimit → un + 16 < cLine → News h₀ L s.heap ((l, listOf us.toArray n) :: (self, instObj 182 dx) :: (dx, hdDict w th l) :: rest) →
    (∀ (T : Addr) (t3 t4 : Tok) (h' : Heap) (tk' n' : Nat), Fr h₀ L h' m → News h₀ L h' ((T, tupObj [.str nm t3, .str x t4]) :: (l, listOf (us ++ [Value.ref T]).toArray n') :: (self, instObj 182 dx) :: (dx, hdDict w th l) :: rest) → (∀ p ∈ (l, listOf us.toArray n) :: (self, instObj 182 dx) :: (dx, hdDict w th l) :: rest, @Ne Nat p.1 T) → Q .none { s with heap := h', toks := tk' }) →
      wpAny (model PySem.Challenge.rw_ny0294_01.row.prog w) (ktrTop dp un gd cn cs L a ccd cl outer) (call (.ref 179) [.ref self, .str nm t1, .str x t2]) Q E s := by
  intro mean mg mb dp un gd cn cs a ccd cl outer A₀ base h₀ L m s Q E B F X T hk hdp hun N hret
  have kM := kdMark
  refine wpAny_call ?_
  k_dflt (refine' kp_more ?k1 ?k2 ?k3 ?k4 ?k5 ?kA ?kF ?kK ?k6 ?k7 ?k8 ?kX ?kM ?kN ?kD ?kR ?kP ?kT ?kB ?_ ?c2 ?c3 ?c4 ?c5; (case kA => exact rfl); (case kF => exact rfl); (case kK => assumption); (case k1 => k_asm); (case k2 => k_asm); (case k3 => k_asm); (case k4 => k_asm); (case k5 => k_asm); (case k6 => k_is); (case k7 => k_is); (case k8 => ktr_room); (case kX => kp_lit); (case kM => exact rfl); (case kN => exact rfl); (case kD => kp_flats); (case kR => exact rfl); (case kP => exact rfl); (case kT => exact fun _ => rfl); (case kB => exact fun _ => locs rfl); (((try (case c5 => decide)); (try (case kB => exact locs rfl)); (case c2 => exact rfl); (case c3 => exact rfl); (case c4 => exact rfl); k_whole)); intro D' o' g' L' h' tk' l1 lo' hs' fs' FG' F' N' B' X' T'; (try k_lt l1); (try dsimp only); (try k_lift B'); (try k_fold))
  repeat' (first | (k_unfold; (try dsimp only)) | (k_end; wrow_close) | with_reducible (k_here; (with_reducible show wpAny _ _ (call (Value.ref 83) [Value.ref _, Value.str _ _] _) _ _ _); k_dflt (refine' PureK.use (conv_c _ _ _ _ _ ?kx ?kp) ?k1 ?k2 ?k3 ?k4 ?k5 ?kK ?kd ?ku trivial ?_; (case kx => walk_at "my len"); (case kp => walk_at "my print"); (((case k1 => k_asm); (case k2 => k_asm); (case k3 => k_asm); (case k4 => k_asm); (case k5 => k_asm); (case kK => first | exact rfl | assumption); (case kd => ktr_room); (case ku => ktr_units)))); intro v99z h99z tk99z F99z N99z e99z; (cases e99z); (try dsimp only); (try k_fold)) | walk1 | (dsimp only; walk1) | (leave1; walk_say "STEP leave1"; try dsimp only))
  (rename News _ _ _ _ => N9)
  (have N10 := news_drop3 N9)
  clear N9
  refine append_K (by k_asm) N10 (Upd.tail (Nat.ne_of_gt (by omega)) (Upd.head (List.forall_mem_cons.mpr ⟨Ne.symm hn1, List.forall_mem_cons.mpr ⟨Ne.symm hn2, fun p hp => hoff p hp l (.head _)⟩⟩))) ?_ (by rw [List.size_toArray, sizeLine_eq]; omega)
  intro h8 F8 N8
  repeat' (first | (k_unfold; (try dsimp only)) | (k_end; wrow_close) | with_reducible (k_here; (with_reducible show wpAny _ _ (call (Value.ref 83) [Value.ref _, Value.str _ _] _) _ _ _); k_dflt (refine' PureK.use (conv_c _ _ _ _ _ ?kx ?kp) ?k1 ?k2 ?k3 ?k4 ?k5 ?kK ?kd ?ku trivial ?_; (case kx => walk_at "my len"); (case kp => walk_at "my print"); (((case k1 => k_asm); (case k2 => k_asm); (case k3 => k_asm); (case k4 => k_asm); (case k5 => k_asm); (case kK => first | exact rfl | assumption); (case kd => ktr_room); (case ku => ktr_units)))); intro v99z h99z tk99z F99z N99z e99z; (cases e99z); (try dsimp only); (try k_fold)) | walk1 | (dsimp only; walk1) | (leave1; walk_say "STEP leave1"; try dsimp only))
  (rename News _ _ _ _ => kN9)
  simp only [List.push_toArray, join_one] at kN9
  (rename (_ < _ ∧ _ < _ ∧ _ < _ ∧ _ < _ ∧ _ < _ ∧ _ < _ ∧ AllLt _ _) => hlt9)
  exact hret _ _ _ _ _ _ (by assumption) kN9 (List.forall_mem_cons.mpr ⟨Nat.ne_of_lt hlt9.2.2.2.1, List.forall_mem_cons.mpr ⟨Nat.ne_of_lt hlt9.2.2.2.2.1, List.forall_mem_cons.mpr ⟨Nat.ne_of_lt hlt9.2.2.2.2.2.1, allLt_ne hlt9.2.2.2.2.2.2⟩⟩⟩)

theorem at_E1 : True := by w_top off; trivial
noncomputable def trunc (h : Heap) (L : Nat) : Heap := ⟨h.objs.extract 0 L, h.life⟩
theorem trunc_get {h : Heap} {L b : Nat} (hb : b < L) : (trunc h L).get? b = h.get? b := by
  unfold trunc Heap.get?
  have : (h.objs.extract 0 L)[b]? = h.objs[b]? := by
    rw [Array.getElem?_extract]
    by_cases hs : b < h.objs.size
    · rw [if_pos (by omega)]; simp
    · rw [if_neg (by omega)]; exact (Array.getElem?_eq_none (by omega)).symm
  dsimp only
  rw [this]
theorem trunc_size {h : Heap} {L : Nat} (hL : L ≤ h.objs.size) : (trunc h L).objs.size = L := by
  unfold trunc
  show (h.objs.extract 0 L).size = L
  rw [Array.size_extract]; omega
theorem trunc_of {h : Heap} {L b : Nat} {o : Obj} (e : (trunc h L).get? b = some o) (hL : L ≤ h.objs.size) : b < L ∧ h.get? b = some o := by
  have hb : b < L := by have := Heap.lt_size e; rw [trunc_size hL] at this; exact this
  exact ⟨hb, by rw [← trunc_get hb]; exact e⟩
/-- what lies below the frame's own dict, but for the addresses as, becomes the ground -/
theorem rebase {g h : Heap} {L : Addr} {m : Str → Option Value} {A rest : List (Addr × Obj)} (F : Fr g L h m) (N : News g L h (A ++ rest)) (hd : ∀ p ∈ rest, p.1 ∉ A.map (·.1)) (hlt : ∀ p ∈ rest, p.1 < L) :
    ∃ g2 : Heap, Fr g2 L h m ∧ News g2 L h A ∧ g.StaysIn g2 ∧ g.objs.size ≤ g2.objs.size ∧ ∀ p ∈ rest, g2.get? p.1 = some p.2 := by
  have hL : L ≤ h.objs.size := Nat.le_of_lt F.ns.lt
  have up : ∀ b o, b < L → h.get? b = some o → b ∉ A.map (·.1) → (hideAll (trunc h L) (A.map (·.1))).get? b = some o := fun b o hb e hn => hideAll_get _ ((trunc_get hb).trans e) hn
  refine ⟨hideAll (trunc h L) (A.map (·.1)), ⟨F.ns, fun b o e => (trunc_of (of_hideAll _ e) hL).2, ?_⟩, fun p hp => ⟨(N p (List.mem_append_left _ hp)).1, (N p (List.mem_append_left _ hp)).2.1, hideAll_none _ (List.mem_map_of_mem hp)⟩, fun b o e => ?_, ?_, fun p hp => ?_⟩
  · rw [hideAll_size, trunc_size hL]; exact Nat.le_refl _
  · refine up b o (Nat.lt_of_lt_of_le (Heap.lt_size e) F.above) (F.keep b o e) fun hq => ?_
    obtain ⟨p, hp, rfl⟩ := List.mem_map.mp hq
    rw [(N p (List.mem_append_left _ hp)).2.2] at e; cases e
  · rw [hideAll_size, trunc_size hL]; exact F.above
  · exact up _ _ (hlt p hp) (N p (List.mem_append_right _ hp)).1 (hd p hp)
noncomputable def RestK (rest : List (Addr × Obj)) (R : Result → Shared → Prop) : Result → Shared → Prop := fun r s' => (∀ p ∈ rest, s'.heap.get? p.1 = some p.2) → R r s'
theorem leave_rebase {h₀ g g2 : Heap} {L : Addr} {m : Str → Option Value} {rest : List (Addr × Obj)} {R : Result → Shared → Prop} {v : Value} {s' : Shared} (st : g.StaysIn g2) (hs : g.objs.size ≤ g2.objs.size) (hr : ∀ p ∈ rest, g2.get? p.1 = some p.2)
    (h : LeaveK h₀ L m g2 (RestK rest R) v s') : LeaveK h₀ L m g R v s' := by
  obtain ⟨L', m', news', F', N', k⟩ := h
  refine ⟨L', m', news', ⟨F'.ns, fun b o e => F'.keep b o (st b o e), Nat.le_trans hs F'.above⟩, fun p hp => ⟨(N' p hp).1, (N' p hp).2.1, ?_⟩, fun a b => k a b fun p hp => F'.keep _ _ (hr p hp)⟩
  cases e : g.get? p.1 with
  | none => rfl
  | some o => have := st _ _ e; rw [(N' p hp).2.2] at this; cases this
theorem below_rebase {A : Around} {base g g2 : Heap} {outer : List Env} (B : Below A base outer g) (st : g.StaysIn g2) : Below A base outer g2 :=
  ⟨B.stack, fun b o e => st b o (B.stays b o e), B.frames.of_keeps fun b o e _ => ⟨o, st b o e, rfl⟩⟩

theorem at_E2 : True := by w_top off; trivial
section
variable {prog : Program} {w : World} {A A₀ : Around} {s : Shared} {K : Frag} {L : Addr} {h₀ base : Heap} {m mg mb : Str → Option Value} {news : List (Addr × Obj)} {p : Program} {loose : List Str} {mean : ExcName → Option Value}
  {env : Env} {outer : List Env} {R : Result → Shared → Prop} {name qual : Str} {params : Arguments} {body : List Stmt} {scope : Scope} {dV kV doc pm cdv ct oc : Value} {an od : Option Addr} {osl : Array (Option Value)} {f : Addr} {args : Args}
/-- a new frame stands above all that its caller's ledger holds -/
theorem frameL {E : Value → Shared → Prop} {binds : List (Str × Value)} (B : Below A₀ base outer h₀) (F : Fr h₀ L s.heap m) (N : News h₀ L s.heap news) (hlim : h₀.NoLimit) (hA : A.frames = some (env :: outer)) (hf : env.frame = some L) (hke : env.scope.kind = .function)
    (hloc : ∀ y ∈ binds, scope.names.lookup y.1 = some .local)
    (h : ∀ g L' h₁, (∀ p ∈ news, p.1 < L') → Fr h₀ L g m → Fr g L' h₁ (fun y => binds.reverse.lookup y) → News g L' h₁ news → Below A base (env :: outer) g → h₀.StaysIn g →
      wpAny (model prog w) (A.deeper (envOf qual scope L' f cdv)) (execs body (envOf qual scope L' f cdv))
        (fun fl s' => LeaveK h₀ L m g R (match fl with | .ret v => v | _ => .none) s')
        (fun e s' => wpAny (model prog w) (A.deeper (envOf qual scope L' f cdv)) (leaving (envOf qual scope L' f cdv) e) (fun _ s'' => R (.error e) s'') (fun e' s'' => R (.error e') s'') s')
        { s with heap := h₁, toks := s.toks + binds.length })
    (hcell : ∀ x ∈ scope.names, x.2 ≠ .cell) (hk : scope.kind = .function) :
    wpAny (model prog w) A.in1 (newFunctionEnv scope mainGlobals [] binds (qual ++ ".<locals>.") (some f) cdv none builtinsNs) (fun env' s₂ => s₂.heap.NoLimit ∧ codeAny (model prog w) A (.func body env') R s₂) E s := by
  have low : ∀ p ∈ news, p.1 < s.heap.objs.size := fun p hp => Heap.lt_size (N p hp).1
  obtain ⟨FG, BG, st, lv⟩ := groundX (R := R) B F N hA hf hke
  refine wpAny_newFunctionEnv hcell hloc (fun h₁ hns hsb => ⟨(hlim.keeps F.keep).fresh _ hsb, codeAny_func ?_⟩) hk
  have stay : ∀ b o, s.heap.get? b = some o → h₁.get? b = some o := fun b o e => hsb.extBut b o (Nat.ne_of_lt (Heap.lt_size e)) (Heap.get?_push_of_some _ e)
  have FL : Fr (hideAll s.heap (news.map (·.1))) s.heap.objs.size h₁ (fun y => binds.reverse.lookup y) := ⟨hns, fun b o e => stay b o (of_hideAll _ e), Nat.le_of_eq (hideAll_size _ _)⟩
  have NL : News (hideAll s.heap (news.map (·.1))) s.heap.objs.size h₁ news := fun p hp => ⟨stay _ _ (N p hp).1, Nat.ne_of_lt (low p hp), hideAll_none _ (List.mem_map_of_mem hp)⟩
  exact wpAny_mono (h _ s.heap.objs.size h₁ low FG FL NL BG st) (fun fl s' hl => lv _ _ hl) fun _ _ y => y
theorem moreL {nm : Str} {ex front : List (Str × Value)} {DD : List (PyData × PyData)} {g₁ : Addr → Sem (List (Str × Value))}
    (B : Below A₀ base outer h₀) (F : Fr h₀ L s.heap m) (X₀ : K.In h₀) (N : News h₀ L s.heap news) (T : Top p loose mean mg mb h₀) (hA : A.frames = some (env :: outer)) (hf : env.frame = some L) (hke : env.scope.kind = .function)
    (ho : K.lookup f = some ⟨oc, od, .func (fnOf name qual params body scope dV kV doc pm an cdv ct), osl⟩) (hcd : codeIn K cdv qual = true) (hroom : A.depth < recursionLimit)
    (hx : args.kw.filter (fun x => !ownKw params x.1) = ex) (hnm : params.kwarg.map (·.arg) = some nm) (hn : kwDistinct ex = true) (hD : PyProof.V.FlatPairs PyData.str ex DD)
    (_hfr : peek K ⟨prog, w.params⟩ (bindArgs (fnCut (fnOf name qual params body scope dV kV doc pm an cdv ct)) (argsCut params args)) = some front)
    (hp : peekA K ⟨prog, w.params⟩ (bindArgs (fnOf name qual params body scope dV kV doc pm an cdv ct) args) = some (dictOf [] 0, g₁))
    (hk₁ : ∀ D, g₁ D = (forIn ex PUnit.unit (fun x _ => (nsSet D x.1 x.2 >>= fun _ => pure (ForInStep.yield PUnit.unit))) >>= fun _ => pure (front ++ [(nm, Value.ref D)])))
    (hloc : ∀ D, ∀ y ∈ front ++ [(nm, Value.ref D)], scope.names.lookup y.1 = some .local)
    (h : ∀ D o g L' h₁ tk, (∀ p ∈ news, p.1 < D) → D < L' → (D == sysModules) = false → o.IsDictOf (strKind prog w) ex → PyProof.V.FlatPairs PyData.str ex DD → Fr h₀ L g m → Fr g L' h₁ (fun y => (front ++ [(nm, Value.ref D)]).reverse.lookup y) → News g L' h₁ ((D, o) :: news) → Below A base (env :: outer) g → K.In g → Top p loose mean mg mb g →
      wpAny (model prog w) (A.deeper (envOf qual scope L' f cdv)) (execs body (envOf qual scope L' f cdv))
        (fun fl s' => LeaveK h₀ L m g R (match fl with | .ret v => v | _ => .none) s')
        (fun e s' => wpAny (model prog w) (A.deeper (envOf qual scope L' f cdv)) (leaving (envOf qual scope L' f cdv) e) (fun _ s'' => R (.error e) s'') (fun e' s'' => R (.error e') s'') s')
        { s with heap := h₁, toks := tk })
    (hco : scope.isCoroutine = false) (hgen : scope.isGenerator = false) (hk : scope.kind = .function)
    (hcell : ∀ x ∈ scope.names, x.2 ≠ .cell) : codeAny (model prog w) A (.call (.ref f) args) R s := by
  have _ := hx
  have _ := hnm
  have nd := kwDistinct_nodup hn
  have X := X₀.keeps F.keep
  refine codeAny_call_function (fd := fnOf name qual params body scope dV kV doc pm an cdv ct) (body := body) hroom (X _ _ ho) rfl hco hgen rfl (codeRec_of X hcd) ?_
  refine wp_of_peekA (o := dictOf [] 0) F N X rfl _ g₁ hp fun h' F' N' l => ?_
  rw [hk₁]
  refine wpAny_bind (kp_fill ex { s with heap := h' } [] 0 F' N' (fun p hp => Nat.ne_of_lt (l p hp)) (fun _ he => nomatch he) (fun _ he => nomatch he) nd fun h2 F2 N2 => wpAny_pure ?_)
  exact frameL (s := { s with heap := h2, toks := s.toks + ex.length }) B F2 N2 T.nolimit hA hf hke (hloc _)
    (fun g L' h₁ low FG FL NG BG st => h _ _ g L' h₁ _ l (low _ (.head _)) (F.notModules (modules_low T.nolimit)) (kp_isDict s.toks (0 + ex.length) nd) hD FG FL NG BG (X₀.keeps st) (T.keeps st)) hcell hk
end

theorem at_D6 : True := by w_top off; trivial
theorem news_drop2 {h₀ h : Heap} {L : Addr} {a b c : Addr × Obj} {tl : List (Addr × Obj)} (N : News h₀ L h (a :: b :: c :: tl)) : News h₀ L h (a :: tl) :=
  fun p hp => N p (by rcases List.mem_cons.mp hp with rfl | hp; exact .head _; exact .tail _ (.tail _ (.tail _ hp)))
theorem news_with {h₀ h : Heap} {L : Addr} {a b c d : Addr × Obj} {rest : List (Addr × Obj)} (N : News h₀ L h [a, b, c, d]) (hR : ∀ p ∈ rest, h.get? p.1 = some p.2) (hN : ∀ p ∈ rest, p.1 ≠ L ∧ h₀.get? p.1 = none) : News h₀ L h (a :: b :: c :: d :: rest) := by
  intro p hp
  rcases List.mem_append.mp (show p ∈ [a, b, c, d] ++ rest from hp) with hp | hp
  · exact N p hp
  · exact ⟨hR p hp, hN p hp⟩
theorem escF_le (x : Str) : (escF x).length ≤ 9 * x.length + 12 := by
  unfold escF
  have h1 := replace_le x (Str.ofString "\\") (Str.ofString "\\\\") 92 rfl
  have h2 := replace_le (Txt.replace x (Str.ofString "\\") (Str.ofString "\\\\")) (Str.ofString "\"") (Str.ofString "\\\"") 34 rfl
  have e1 : (Str.ofString "\\\\").length = 2 := rfl
  have e2 : (Str.ofString "\\\"").length = 2 := rfl
  rw [e1] at h1; rw [e2] at h2
  omega
theorem fmtF_le (p x : Str) : (fmtF p x).length ≤ p.length + 9 * x.length + 16 := by
  unfold fmtF
  have h := escF_le x
  split
  · omega
  · simp only [Str.length_append]
    have e1 : (Str.ofString "=\"").length = 2 := rfl
    have e2 : (Str.ofString "\"").length = 1 := rfl
    have e3 : Str.empty.length = 0 := rfl
    omega
theorem rep_fn : Txt.replace (Str.ofString "filename") (Str.ofString "_") (Str.ofString "-") = Str.ofString "filename" := by decide +kernel
theorem rep_so : Txt.replace (Str.ofString "size_of") (Str.ofString "_") (Str.ofString "-") = Str.ofString "size-of" := by decide +kernel
local macro_rules | `(tactic| walk_at "my len") => `(tactic| first | assumption | (have hcL9 := True.intro; omega) | (exact Nat.le_of_ble_eq_true rfl) | (decide +kernel))
local macro_rules | `(tactic| walk_at "my print") => `(tactic| first | assumption | (unfold Printable; decide +kernel))
section
local macro_rules | `(tactic| walk_at "exec For Tuple Call cons nil") => `(tactic| (k_here; refine Hold.out ?_))
local macro_rules | `(tactic| walk_at "execs cons") => `(tactic| (k_here; refine execs_pos (by (dsimp only); first | exact Nat.succ_pos _ | omega) ?_))
theorem add3_c (w : World) (self dx l : Addr) (us : List Value) (n : Nat) (th : Tok) (b : Str) (t1 t2 t3 t4 : Tok) (rest : List (Addr × Obj)) (hxl : b.length ≤ 1000) (hxp : Printable b) (hus : us.length ≤ 1000)
    (hoff : OwnOff rest [l, self, dx]) (hn1 : l ≠ self) (hn2 : l ≠ dx) (hn3 : dx ≠ self) :
  ∀ (mean : ExcName → Option Value) (mg mb : Str → Option Value) (dp un : Nat) (gd : Option (List Code)) (cn : Str) (cs : Scope) (a : Addr) (ccd : Value) (cl : List (Str × Addr)) (outer : List Env) (A₀ : Around) (base h₀ : Heap) (L : Addr) (m : Str → Option Value) (s : Shared) (Q E : Value → Shared → Prop),
    Below A₀ base outer h₀ → Fr h₀ L s.heap m → (Mine.hd.heap_39 w.params).In h₀ → Top Mine.view lse mean mg mb h₀ → cs.kind = .function →
    dp + 2 < recursionLimit → un + 16 < cLine → News h₀ L s.heap ((l, listOf us.toArray n) :: (self, instObj 182 dx) :: (dx, hdDict w th l) :: rest) →
    (∀ (T : Addr) (t3 t4 : Tok) (h' : Heap) (tk' n' : Nat), Fr h₀ L h' m → News h₀ L h' ((T, tupObj [.str (Str.ofString "Content-Disposition") t3, .str (Txt.join (Str.ofString "; ") [Str.ofString "attachment", fmtF (Str.ofString "filename") b, fmtF (Str.ofString "size-of") (Str.ofString "1 k"), Str.ofString "inline"]) t4]) :: (l, listOf (us ++ [Value.ref T]).toArray n') :: (self, instObj 182 dx) :: (dx, hdDict w th l) :: rest) → (∀ p ∈ (l, listOf us.toArray n) :: (self, instObj 182 dx) :: (dx, hdDict w th l) :: rest, @Ne Nat p.1 T) → Q .none { s with heap := h', toks := tk' }) →
      wpAny (model PySem.Challenge.rw_ny0294_01.row.prog w) (ktrTop dp un gd cn cs L a ccd cl outer) (call (.ref 179) [.ref self, .str (Str.ofString "Content-Disposition") t1, .str (Str.ofString "attachment") t2] [(Str.ofString "filename", .str b t3), (Str.ofString "size_of", .str (Str.ofString "1 k") t4), (Str.ofString "inline", .none)]) Q E s := by
  intro mean mg mb dp un gd cn cs a ccd cl outer A₀ base h₀ L m s Q E B F X T hk hdp hun N hret
  have kM := kdMark
  refine wpAny_call ?_
  k_dflt (refine' moreL ?k1 ?k2 ?k3 ?k4 ?k5 ?kA ?kF ?kK ?k6 ?k7 ?k8 ?kX ?kM ?kN ?kD ?kR ?kP ?kT ?kB ?_ ?c2 ?c3 ?c4 ?c5; (case kA => exact rfl); (case kF => exact rfl); (case kK => assumption); (case k1 => k_asm); (case k2 => k_asm); (case k3 => k_asm); (case k4 => k_asm); (case k5 => k_asm); (case k6 => k_is); (case k7 => k_is); (case k8 => ktr_room); (case kX => kp_lit); (case kM => exact rfl); (case kN => exact rfl); (case kD => kp_flats); (case kR => exact rfl); (case kP => exact rfl); (case kT => exact fun _ => rfl); (case kB => exact fun _ => locs rfl); (((try (case c5 => decide)); (try (case kB => exact locs rfl)); (case c2 => exact rfl); (case c3 => exact rfl); (case c4 => exact rfl); k_whole)); intro D' o' g' L' h' tk' l1 lD' lo' hs' fs' FG' F' N' B' X' T'; (try dsimp only))
  obtain ⟨g2, F2, N2, st2, sz2, hr2⟩ := rebase (A := [(D', o'), (l, listOf us.toArray n), (self, instObj 182 dx), (dx, hdDict w th l)]) (rest := rest) F' N' (by
      intro p hp hq
      simp only [List.map_cons, List.map_nil, List.mem_cons, List.not_mem_nil, or_false] at hq
      rcases hq with hq | hq | hq | hq
      · exact Nat.ne_of_lt (l1 p (.tail _ (.tail _ (.tail _ hp)))) hq
      · exact hoff p hp l (.head _) hq
      · exact hoff p hp self (.tail _ (.head _)) hq
      · exact hoff p hp dx (.tail _ (.tail _ (.head _))) hq) (fun p hp => Nat.lt_trans (l1 p (.tail _ (.tail _ (.tail _ hp)))) lD')
  refine wpAny_mono (Q := fun fl s' => LeaveK h₀ L m g2 (RestK rest (fun r s' => match r with | .ok (.ret v) => Q v s' | .ok _ => False | .error e => E e s')) (match fl with | .ret v => v | _ => .none) s') ?_ (fun fl s' hl => leave_rebase st2 sz2 hr2 hl) (fun _ _ x => x)
  have B2 := below_rebase B' st2
  have X2 := X'.keeps st2
  have T2 := T'.keeps st2
  have l2 : ∀ p ∈ [(l, listOf us.toArray n), (self, instObj 182 dx), (dx, hdDict w th l)], p.1 < D' := fun p hp => l1 p (List.mem_append_left rest hp)
  clear F' N' B' X' T' l1
  (try k_lt l2)
  (try k_lift B2); (try k_fold)
  repeat' (first | (k_unfold; (try dsimp only)) | (k_end; wrow_close) | with_reducible (k_here; (with_reducible show wpAny _ _ (call (Value.ref 61) [Value.str _ _, Value.str _ _]) _ _ _); k_dflt (refine' Pure.use (formatparam_c _ _ _ _ _ ?kx ?kp) ?k1 ?k2 ?k3 ?k4 ?k5 ?kK ?kd ?ku trivial ?_; (case kx => first | (decide +kernel) | omega); (case kp => first | omega | (decide +kernel)); (((case k1 => k_asm); (case k2 => k_asm); (case k3 => k_asm); (case k4 => k_asm); (case k5 => k_asm); (case kK => first | exact rfl | assumption); (case kd => ktr_room); (case ku => ktr_units)))); intro v99z h99z tk99z F99z N99z e99z; (obtain ⟨t99z, e99z⟩ := e99z); (cases e99z); (try dsimp only); (try k_fold)) | with_reducible (k_here; (with_reducible show wpAny _ _ (call (Value.builtin "str.replace") [Value.str _ _, Value.str _ _, Value.str _ _]) _ _ _); refine replace_call _ (by (with_unfolding_all exact (rfl : Str.ofString "_" = ⟨#[95]⟩))) (by (show @Ne Nat _ _); first | exact Nat.succ_ne_zero _ | exact Nat.ne_of_gt (by with_reducible assumption) | omega) (by (show @Ne Nat _ _); first | exact Nat.succ_ne_zero _ | exact Nat.ne_of_gt (by with_reducible assumption) | omega) (by (show @Ne Nat _ _); first | exact Nat.succ_ne_zero _ | exact Nat.ne_of_gt (by with_reducible assumption) | omega) (by decide) (by first | decide | omega) (by decide) ?_; intro t99z k99z hk99z hl99z; (dsimp only at hk99z)) | with_reducible (k_here; (with_reducible show wpAny _ _ (call (Value.ref 83) [Value.ref _, Value.str _ _] _) _ _ _); k_dflt (refine' PureK.use (conv_c _ _ _ _ _ ?kx ?kp) ?k1 ?k2 ?k3 ?k4 ?k5 ?kK ?kd ?ku trivial ?_; (case kx => walk_at "my len"); (case kp => walk_at "my print"); (((case k1 => k_asm); (case k2 => k_asm); (case k3 => k_asm); (case k4 => k_asm); (case k5 => k_asm); (case kK => first | exact rfl | assumption); (case kd => ktr_room); (case ku => ktr_units)))); intro v99z h99z tk99z F99z N99z e99z; (cases e99z); (try dsimp only); (try k_fold)) | walk1 | (dsimp only; walk1) | (leave1; walk_say "STEP leave1"; try dsimp only))
  unfold Hold
  ktd_dictName
  (try ktd_lit)
  kti_methFor
  repeat' (first | (k_unfold; (try dsimp only)) | (k_end; wrow_close) | with_reducible (k_here; (with_reducible show wpAny _ _ (call (Value.ref 61) [Value.str _ _, Value.str _ _]) _ _ _); k_dflt (refine' Pure.use (formatparam_c _ _ _ _ _ ?kx ?kp) ?k1 ?k2 ?k3 ?k4 ?k5 ?kK ?kd ?ku trivial ?_; (case kx => first | (decide +kernel) | omega); (case kp => first | omega | (decide +kernel)); (((case k1 => k_asm); (case k2 => k_asm); (case k3 => k_asm); (case k4 => k_asm); (case k5 => k_asm); (case kK => first | exact rfl | assumption); (case kd => ktr_room); (case ku => ktr_units)))); intro v99z h99z tk99z F99z N99z e99z; (obtain ⟨t99z, e99z⟩ := e99z); (cases e99z); (try dsimp only); (try k_fold)) | with_reducible (k_here; (with_reducible show wpAny _ _ (call (Value.builtin "str.replace") [Value.str _ _, Value.str _ _, Value.str _ _]) _ _ _); refine replace_call _ (by (with_unfolding_all exact (rfl : Str.ofString "_" = ⟨#[95]⟩))) (by (show @Ne Nat _ _); first | exact Nat.succ_ne_zero _ | exact Nat.ne_of_gt (by with_reducible assumption) | omega) (by (show @Ne Nat _ _); first | exact Nat.succ_ne_zero _ | exact Nat.ne_of_gt (by with_reducible assumption) | omega) (by (show @Ne Nat _ _); first | exact Nat.succ_ne_zero _ | exact Nat.ne_of_gt (by with_reducible assumption) | omega) (by decide) (by first | decide | omega) (by decide) ?_; intro t99z k99z hk99z hl99z; (dsimp only at hk99z)) | with_reducible (k_here; (with_reducible show wpAny _ _ (call (Value.ref 83) [Value.ref _, Value.str _ _] _) _ _ _); k_dflt (refine' PureK.use (conv_c _ _ _ _ _ ?kx ?kp) ?k1 ?k2 ?k3 ?k4 ?k5 ?kK ?kd ?ku trivial ?_; (case kx => walk_at "my len"); (case kp => walk_at "my print"); (((case k1 => k_asm); (case k2 => k_asm); (case k3 => k_asm); (case k4 => k_asm); (case k5 => k_asm); (case kK => first | exact rfl | assumption); (case kd => ktr_room); (case ku => ktr_units)))); intro v99z h99z tk99z F99z N99z e99z; (cases e99z); (try dsimp only); (try k_fold)) | walk1 | (dsimp only; walk1) | (leave1; walk_say "STEP leave1"; try dsimp only))
  have hf1 := fmtF_le (Txt.replace (Str.ofString "filename") (Str.ofString "_") (Str.ofString "-")) b
  have hf2 := fmtF_le (Txt.replace (Str.ofString "size_of") (Str.ofString "_") (Str.ofString "-")) (Str.ofString "1 k")
  rw [rep_fn] at hf1
  rw [rep_so] at hf2
  refine join_listW (ys := [Str.ofString "attachment", fmtF (Str.ofString "filename") b, fmtF (Str.ofString "size-of") (Str.ofString "1 k"), Str.ofString "inline"]) (News.isList (by k_asm) (List.Mem.head _)) (by rw [rep_fn, rep_so]; exact .cons _ _ (.cons _ _ (.cons _ _ (.cons _ _ .nil)))) (by decide) (by simp only [List.map_cons, List.map_nil, List.sum_cons, List.sum_nil, List.length_cons, List.length_nil]; have e1 : (Str.ofString "attachment").length = 10 := rfl; have e2 : (Str.ofString "inline").length = 6 := rfl; have e3 : (Str.ofString "filename").length = 8 := rfl; have e4 : (Str.ofString "size-of").length = 7 := rfl; have e5 : (Str.ofString "1 k").length = 3 := rfl; omega) ?_
  intro t9 k9
  repeat' (first | (k_unfold; (try dsimp only)) | (k_end; wrow_close) | with_reducible (k_here; (with_reducible show wpAny _ _ (call (Value.ref 61) [Value.str _ _, Value.str _ _]) _ _ _); k_dflt (refine' Pure.use (formatparam_c _ _ _ _ _ ?kx ?kp) ?k1 ?k2 ?k3 ?k4 ?k5 ?kK ?kd ?ku trivial ?_; (case kx => first | (decide +kernel) | omega); (case kp => first | omega | (decide +kernel)); (((case k1 => k_asm); (case k2 => k_asm); (case k3 => k_asm); (case k4 => k_asm); (case k5 => k_asm); (case kK => first | exact rfl | assumption); (case kd => ktr_room); (case ku => ktr_units)))); intro v99z h99z tk99z F99z N99z e99z; (obtain ⟨t99z, e99z⟩ := e99z); (cases e99z); (try dsimp only); (try k_fold)) | with_reducible (k_here; (with_reducible show wpAny _ _ (call (Value.builtin "str.replace") [Value.str _ _, Value.str _ _, Value.str _ _]) _ _ _); refine replace_call _ (by (with_unfolding_all exact (rfl : Str.ofString "_" = ⟨#[95]⟩))) (by (show @Ne Nat _ _); first | exact Nat.succ_ne_zero _ | exact Nat.ne_of_gt (by with_reducible assumption) | omega) (by (show @Ne Nat _ _); first | exact Nat.succ_ne_zero _ | exact Nat.ne_of_gt (by with_reducible assumption) | omega) (by (show @Ne Nat _ _); first | exact Nat.succ_ne_zero _ | exact Nat.ne_of_gt (by with_reducible assumption) | omega) (by decide) (by first | decide | omega) (by decide) ?_; intro t99z k99z hk99z hl99z; (dsimp only at hk99z)) | with_reducible (k_here; (with_reducible show wpAny _ _ (call (Value.ref 83) [Value.ref _, Value.str _ _] _) _ _ _); k_dflt (refine' PureK.use (conv_c _ _ _ _ _ ?kx ?kp) ?k1 ?k2 ?k3 ?k4 ?k5 ?kK ?kd ?ku trivial ?_; (case kx => walk_at "my len"); (case kp => walk_at "my print"); (((case k1 => k_asm); (case k2 => k_asm); (case k3 => k_asm); (case k4 => k_asm); (case k5 => k_asm); (case kK => first | exact rfl | assumption); (case kd => ktr_room); (case ku => ktr_units)))); intro v99z h99z tk99z F99z N99z e99z; (cases e99z); (try dsimp only); (try k_fold)) | walk1 | (dsimp only; walk1) | (leave1; walk_say "STEP leave1"; try dsimp only))
  (rename News _ _ _ _ => N9)
  (have N10 := news_drop2 N9)
  have hT0 := (N10 _ (.head _)).2.2
  clear N9
  refine append_K (by k_asm) N10 (Upd.tail (Nat.ne_of_gt (by omega)) (Upd.head (List.forall_mem_cons.mpr ⟨Ne.symm hn1, List.forall_mem_cons.mpr ⟨Ne.symm hn2, fun p hp => nomatch hp⟩⟩))) ?_ (by rw [List.size_toArray, sizeLine_eq]; omega)
  intro h8 F8 N8
  repeat' (first | (k_unfold; (try dsimp only)) | (k_end; wrow_close) | with_reducible (k_here; (with_reducible show wpAny _ _ (call (Value.ref 61) [Value.str _ _, Value.str _ _]) _ _ _); k_dflt (refine' Pure.use (formatparam_c _ _ _ _ _ ?kx ?kp) ?k1 ?k2 ?k3 ?k4 ?k5 ?kK ?kd ?ku trivial ?_; (case kx => first | (decide +kernel) | omega); (case kp => first | omega | (decide +kernel)); (((case k1 => k_asm); (case k2 => k_asm); (case k3 => k_asm); (case k4 => k_asm); (case k5 => k_asm); (case kK => first | exact rfl | assumption); (case kd => ktr_room); (case ku => ktr_units)))); intro v99z h99z tk99z F99z N99z e99z; (obtain ⟨t99z, e99z⟩ := e99z); (cases e99z); (try dsimp only); (try k_fold)) | with_reducible (k_here; (with_reducible show wpAny _ _ (call (Value.builtin "str.replace") [Value.str _ _, Value.str _ _, Value.str _ _]) _ _ _); refine replace_call _ (by (with_unfolding_all exact (rfl : Str.ofString "_" = ⟨#[95]⟩))) (by (show @Ne Nat _ _); first | exact Nat.succ_ne_zero _ | exact Nat.ne_of_gt (by with_reducible assumption) | omega) (by (show @Ne Nat _ _); first | exact Nat.succ_ne_zero _ | exact Nat.ne_of_gt (by with_reducible assumption) | omega) (by (show @Ne Nat _ _); first | exact Nat.succ_ne_zero _ | exact Nat.ne_of_gt (by with_reducible assumption) | omega) (by decide) (by first | decide | omega) (by decide) ?_; intro t99z k99z hk99z hl99z; (dsimp only at hk99z)) | with_reducible (k_here; (with_reducible show wpAny _ _ (call (Value.ref 83) [Value.ref _, Value.str _ _] _) _ _ _); k_dflt (refine' PureK.use (conv_c _ _ _ _ _ ?kx ?kp) ?k1 ?k2 ?k3 ?k4 ?k5 ?kK ?kd ?ku trivial ?_; (case kx => walk_at "my len"); (case kp => walk_at "my print"); (((case k1 => k_asm); (case k2 => k_asm); (case k3 => k_asm); (case k4 => k_asm); (case k5 => k_asm); (case kK => first | exact rfl | assumption); (case kd => ktr_room); (case ku => ktr_units)))); intro v99z h99z tk99z F99z N99z e99z; (cases e99z); (try dsimp only); (try k_fold)) | walk1 | (dsimp only; walk1) | (leave1; walk_say "STEP leave1"; try dsimp only))
  (rename News _ _ _ _ => kN9)
  simp only [List.push_toArray] at kN9
  intro hR
  refine hret _ _ _ _ _ _ (by assumption) (news_with kN9 hR fun p hp => (N p (.tail _ (.tail _ (.tail _ hp)))).2) (List.forall_mem_cons.mpr ⟨Nat.ne_of_lt (by omega), List.forall_mem_cons.mpr ⟨Nat.ne_of_lt (by omega), List.forall_mem_cons.mpr ⟨Nat.ne_of_lt (by omega), fun p hp e => ?_⟩⟩⟩)
  have e2 := hr2 p hp
  have e3 : p.1 = _ := e
  rw [e3] at e2; have e4 := hT0.symm.trans e2; cases e4
end

theorem at_F1 : True := by w_top off; trivial
section
variable {prog : Program} {w : World} {K : Type} [DecidableEq K] {knd : KeyKind prog w K} {A : Around} {E : Value → Shared → Prop} {s : Shared}
theorem dictPut_new {d : Addr} {kvs : List (K × Value)} {k : K} {key v : Value} {Q : Unit → Shared → Prop} (hkey : knd.is k key = true) (hm : s.heap.DictOf knd d kvs) (hnew : k ∉ kvs.map (·.1))
    (hQ : ∀ h', h'.DictOf knd d (kvs ++ [(k, v)]) → Heap.SameBut d s.heap h' → Q () { s with heap := h' }) (hsz : kvs.length ≤ 1000) :
    wpAny (model prog w) A (dictPut d (knd.hash k) key v) Q E s := by
  obtain ⟨o, es, ep, ho, hc, hd, hk, hp, hn⟩ := hm
  have hes : es.size ≤ sizeLine := by
    have e1 := hp.length
    have e2 : es.toList.length = es.size := by simp
    rw [sizeLine_eq]; omega
  unfold dictPut
  refine wpAny_bind (wpAny_dictFind_of hkey ho hd hk ?_)
  have hidx : (es.findIdx? fun e => knd.is k e.key) = none := by
    have h1 : (es.findIdx? fun e => knd.is k e.key) = kvs.findIdx? fun kv => decide (kv.1 = k) := by
      rw [← hp.findIdx k]; obtain ⟨l⟩ := es; simp
    rw [h1, List.findIdx?_eq_none_iff]
    intro kv hkv
    refine decide_eq_false fun e => hnew (List.mem_map.mpr ⟨kv, hkv, e⟩)
  rw [hidx]
  refine wpAny_updateDictKeys (hz := hes) ho hd (hQ _ ⟨_, _, ep + 1, Heap.get?_update_self _ ho (Obj.isFreed_of_dict (Obj.data_mapDictKeys hd _)), hc.mapDictKeys _, Obj.data_mapDictKeys hd _, hk.push hkey _, ?_, ?_⟩ (Heap.SameBut.update ..))
  · have := hp.append hkey (knd.hash k) v
    obtain ⟨l⟩ := es
    simpa using this
  · rw [List.map_append, List.nodup_append]
    refine ⟨hn, by simp, fun a ha b hb => ?_⟩
    simp only [List.map_cons, List.map_nil, List.mem_singleton] at hb
    subst hb
    exact fun e => hnew (e ▸ ha)
end

theorem at_F2 : True := by w_top off; trivial
theorem forIn_skip {F : DictEntry → PUnit → Sem (ForInStep PUnit)} : ∀ (l : List DictEntry), (∀ e ∈ l, F e PUnit.unit = pure (ForInStep.yield PUnit.unit)) → forIn l PUnit.unit F = (pure PUnit.unit : Sem PUnit)
  | [], _ => rfl
  | e :: r, h => by
    rw [List.forIn_cons, h e (.head _)]
    exact forIn_skip r fun e' he => h e' (.tail _ he)
section
variable {prog : Program} {w : World} {K : Type} [DecidableEq K] {knd : KeyKind prog w K} {A : Around} {E : Value → Shared → Prop}
theorem pairs_getL : ∀ {es : List DictEntry} {kvs : List (K × Value)} {i : Nat}, Pairs knd es kvs → (h1 : i < es.length) → (h2 : i < kvs.length) → knd.is kvs[i].1 es[i].key = true ∧ es[i].val = kvs[i].2
  | _, _, 0, .cons a b _, _, _ => ⟨a, b⟩
  | _, _, i + 1, .cons _ _ r, h1, h2 => by
    have := pairs_getL (i := i) r (by simpa using h1) (by simpa using h2)
    simpa using this
theorem pairs_get {es : Array DictEntry} {kvs : List (K × Value)} {i : Nat} (h : Pairs knd es.toList kvs) (h1 : i < es.size) (h2 : i < kvs.length) : knd.is kvs[i].1 es[i].key = true ∧ es[i].val = kvs[i].2 := by
  have := pairs_getL h (by simpa using h1) h2
  simpa using this
theorem put_loop {F : Nat → PUnit → Sem (ForInStep PUnit)} {a d : Addr} {oa : Obj} {es : Array DictEntry} {kvs : List (K × Value)} (had : a ≠ d) (hk : KeysOf knd es) (hp : Pairs knd es.toList kvs) (hnd : (kvs.map (·.1)).Nodup)
    (hF : ∀ i e, es[i]? = some e → ∀ (s : Shared) (Q : ForInStep PUnit → Shared → Prop), s.heap.get? a = some oa → wpAny (model prog w) A (dictPut d e.hash e.key e.val) (fun _ s' => s'.heap.get? a = some oa ∧ Q (.yield PUnit.unit) s') E s → wpAny (model prog w) A (F i PUnit.unit) Q E s) :
    ∀ (m i : Nat) (s : Shared) (acc : List (K × Value)) (Q : PUnit → Shared → Prop), i + m = es.size → s.heap.DictOf knd d acc → s.heap.get? a = some oa → acc.length + m ≤ 1000 → (∀ x ∈ kvs.drop i, x.1 ∉ acc.map (·.1)) →
      (∀ h', h'.DictOf knd d (acc ++ kvs.drop i) → Heap.SameBut d s.heap h' → Q PUnit.unit { s with heap := h' }) → wpAny (model prog w) A (forIn (List.range' i m) PUnit.unit F) Q E s
  | 0, i, s, acc, Q, hi, hd, ha, hl, hx, hQ => by
    have hlen := hp.length
    have : kvs.drop i = [] := List.drop_eq_nil_of_le (by simp at hlen; omega)
    rw [this, List.append_nil] at hQ
    exact wpAny_pure (hQ s.heap hd (Heap.SameBut.refl _ _))
  | m + 1, i, s, acc, Q, hi, hd, ha, hl, hx, hQ => by
    have hlen := hp.length
    have hil : i < es.size := by omega
    have hik : i < kvs.length := by simp at hlen; omega
    rw [List.range'_succ, List.forIn_cons]
    have he : es[i]? = some es[i] := by simp [hil]
    have hkv : kvs.drop i = kvs[i] :: kvs.drop (i + 1) := List.drop_eq_getElem_cons hik
    obtain ⟨h1, h2⟩ := pairs_get hp hil hik
    obtain ⟨k', hk', hh'⟩ := hk es[i] (by simp)
    have ek : k' = kvs[i].1 := knd.inj _ _ _ hk' h1
    subst ek
    refine wpAny_bind (hF i _ he s _ ha ?_)
    rw [hh']
    refine dictPut_new h1 hd (hx _ (by rw [hkv]; exact .head _)) (fun h' hd' hs' => ⟨(hs'.2 a had).trans ha, ?_⟩) (by omega)
    refine put_loop had hk hp hnd hF m (i + 1) _ (acc ++ [(kvs[i].1, es[i].val)]) Q (by omega) hd' ((hs'.2 a had).trans ha) (by simp; omega) ?_ ?_
    · intro x hx'
      simp only [List.map_append, List.map_cons, List.map_nil, List.mem_append, List.mem_singleton, not_or]
      refine ⟨hx x (by rw [hkv]; exact .tail _ hx'), fun e => ?_⟩
      have nd2 : ((kvs.drop i).map (·.1)).Nodup := by rw [List.map_drop]; exact hnd.sublist (List.drop_sublist _ _)
      rw [hkv, List.map_cons, List.nodup_cons] at nd2
      exact nd2.1 (List.mem_map.mpr ⟨x, hx', e⟩)
    · intro h2' hd2 hs2
      refine hQ h2' ?_ (hs'.trans hs2)
      rw [hkv]
      have e3 : kvs[i] = (kvs[i].1, es[i].val) := by rw [h2]
      rw [e3]
      simpa using hd2
end

theorem at_F3 : True := by w_top off; trivial
section
variable {prog : Program} {w : World} {A : Around} {E : Value → Shared → Prop} {s : Shared}
theorem merge_new {a d : Addr} {kvs acc : List (Str × Value)} {Q : Unit → Shared → Prop} (had : a ≠ d) (hA : s.heap.DictOf (strKind prog w) a kvs) (hD : s.heap.DictOf (strKind prog w) d acc) (hm : (a == sysModules) = false)
    (hx : ∀ x ∈ kvs, x.1 ∉ acc.map (·.1)) (hl : acc.length + kvs.length ≤ 1000)
    (hQ : ∀ h', h'.DictOf (strKind prog w) d (acc ++ kvs) → Heap.SameBut d s.heap h' → Q () { s with heap := h' }) : wpAny (model prog w) A (mergeMapping d (.ref a) false) Q E s := by
  have hA0 := hA
  have hD0 := hD
  obtain ⟨o, es, ep, ho, hc, hdat, hk, hp, hn⟩ := hA
  obtain ⟨od, esd, epd, hod, hcd, hdatd, hkd, hpd, hnd⟩ := hD
  obtain ⟨cls, dct, data, sl⟩ := o
  obtain ⟨clsd, dctd, datad, sld⟩ := od
  obtain ⟨rfl, rfl, rfl⟩ := hc
  obtain ⟨rfl, rfl, rfl⟩ := hcd
  have hdat' : data = .dict es ep := hdat
  have hdatd' : datad = .dict esd epd := hdatd
  subst hdat' hdatd'
  obtain ⟨h, g, dd, t, os⟩ := s
  have hT : (⟨h, g, dd, t, os⟩ : Shared).TypeIs (.ref a) "dict" := ⟨_, ho, rfl⟩
  have f1 : isSubtype (.type "dict") (.type "dict") = pure true := by rw [isSubtype_type]; kernel_rfl
  have f2 : typeLookup (.type "dict") "__iter__" = pure (some (.builtin "dict.__iter__")) := by rw [typeLookup_type, builtinLookup_eq_fast]; kernel_rfl
  have key : ∀ e ∈ es, ∃ x t, e.key = .str x t := fun e he => by
    obtain ⟨k, h1, _⟩ := hk e he
    obtain ⟨t, e1⟩ := Value.isStrOf_shape h1
    exact ⟨k, t, e1⟩
  have hsz : es.size = kvs.length := by have := hp.length; simpa using this
  have fin : ∀ (F : Nat → PUnit → Sem (ForInStep PUnit)) (Q' : PUnit → Shared → Prop), (∀ i e, es[i]? = some e → ∀ (s : Shared) (Q : ForInStep PUnit → Shared → Prop), s.heap.get? a = some ⟨.type "dict", none, .dict es ep, #[]⟩ → wpAny (model prog w) A (dictPut d e.hash e.key e.val) (fun _ s' => s'.heap.get? a = some ⟨.type "dict", none, .dict es ep, #[]⟩ ∧ Q (.yield PUnit.unit) s') E s → wpAny (model prog w) A (F i PUnit.unit) Q E s) →
      (∀ h', h'.DictOf (strKind prog w) d (acc ++ kvs) → Heap.SameBut d h h' → Q' PUnit.unit ⟨h', g, dd, t, os⟩) → wpAny (model prog w) A (forIn (List.range es.size) PUnit.unit F) Q' E ⟨h, g, dd, t, os⟩ := fun F Q' hF hQ' => by
    rw [List.range_eq_range']
    exact put_loop had hk hp hn hF es.size 0 ⟨h, g, dd, t, os⟩ acc Q' (by omega) hD0 ho (by omega) (by simpa using hx) (by simpa using hQ')
  unfold mergeMapping
  repeat (any_goals (first | assumption | rw [f1] | rw [f2] | wp_step))
  by_cases he : esd.isEmpty = true
  · rw [if_pos he]
    repeat (any_goals (first | assumption | ((with_reducible show wpAny _ _ (forIn (List.range _) _ _) _ _ _); refine fin _ _ ?_ ?_) | ((with_reducible show wpAny _ _ (forIn _ _ _) _ _ _); rw [← Array.forIn_toList, forIn_skip _ (fun e he' => by obtain ⟨x, t, e1⟩ := key e (by simpa using he'); simp only [e1])]) | wp_step))
    · intro i e hie s Q2 ha2 hput
      obtain ⟨h2, g2, d2, t2, os2⟩ := s
      refine wpAny_bind (wpAny_mono (Q := fun r s' => r = es ∧ s' = ⟨h2, g2, d2, t2, os2⟩) ?_ (fun r s' hr => ?_) fun _ _ x => x)
      · repeat (any_goals (first | assumption | exact ⟨rfl, rfl⟩ | wp_step))
      · obtain ⟨rfl, rfl⟩ := hr
        rw [hie]
        refine wpAny_bind (wpAny_holding (wpAny_mono hput (fun _ s3 h3 => ?_) fun _ _ x => x))
        obtain ⟨ha3, hq3⟩ := h3
        obtain ⟨h4, g4, d4, t4, os4⟩ := s3
        have e0 : (ep != ep) = false := by simp
        repeat (any_goals (first | assumption | rw [e0] | wp_step))
    · intro h' hd' hs'
      exact wpAny_pure (hQ h' hd' hs')
  · rw [if_neg he]
    repeat (any_goals (first | assumption | ((with_reducible show wpAny _ _ (forIn (List.range _) _ _) _ _ _); refine fin _ _ ?_ ?_) | wp_step))
    · intro i e hie s Q2 ha2 hput
      obtain ⟨h2, g2, d2, t2, os2⟩ := s
      refine wpAny_bind (wpAny_mono (Q := fun r s' => r = es ∧ s' = ⟨h2, g2, d2, t2, os2⟩) ?_ (fun r s' hr => ?_) fun _ _ x => x)
      · repeat (any_goals (first | assumption | exact ⟨rfl, rfl⟩ | wp_step))
      · obtain ⟨rfl, rfl⟩ := hr
        rw [hie]
        refine wpAny_bind (wpAny_holding (wpAny_mono hput (fun _ s3 h3 => ?_) fun _ _ x => x))
        obtain ⟨ha3, hq3⟩ := h3
        obtain ⟨h4, g4, d4, t4, os4⟩ := s3
        have e0 : (ep != ep) = false := by simp
        repeat (any_goals (first | assumption | rw [e0] | wp_step))
    · intro h' hd' hs'
      exact wpAny_pure (hQ h' hd' hs')
end

theorem at_F4 : True := by w_top off; trivial
theorem gatherD {d : Addr} {f : (Option (Sem Value) × Sem Value) → (Option Addr × List (Sem Value × Sem Value)) → Sem (ForInStep (Option Addr × List (Sem Value × Sem Value)))}
    (hf : ∀ (p : Sem Value × Sem Value) (run : List (Sem Value × Sem Value)), run.length + 1 < 17 → f (some p.1, p.2) (some d, run) = pure (.yield (some d, run ++ [p]))) :
    ∀ (items run : List (Sem Value × Sem Value)), run.length + items.length < 17 → forIn (items.map fun p => (some p.1, p.2)) (some d, run) f = (pure (some d, run ++ items) : Sem _)
  | [], run, _ => by simp
  | p :: rest, run, h => by
    rw [List.map_cons, List.forIn_cons, hf p run (by simp at h; omega), pure_bind]
    have := gatherD hf rest (run ++ [p]) (by simp at h ⊢; omega)
    simpa using this
section
variable {prog : Program} {w : World} {A : Around} {E : Value → Shared → Prop} {s : Shared}
theorem display_star {v0 : Sem Value} {pairs : List (Sem Value × Sem Value)} {Q : Value → Shared → Prop} (hlen : pairs.length < 17) (h0 : pairs.isEmpty = false)
    (h : wpAny (model prog w) A v0 (fun m s₁ => wpAny (model prog w) A (mergeMapping s.heap.objs.size m false) (fun _ s₂ => wpAny (model prog w) A (subDict pairs) (fun sub s₃ => wpAny (model prog w) A (mergeMapping s.heap.objs.size (.ref sub) false) (fun _ s₄ => Q (.ref s.heap.objs.size) s₄) (fun _ _ => False) s₃) (fun _ _ => False) s₂) (fun _ _ => False) s₁) (fun _ _ => False)
      { s with heap := s.heap.push { cls := .type "dict", data := .dict #[] } }) :
    wpAny (model prog w) A (dictDisplay ((none, v0) :: pairs.map fun p => (some p.1, p.2))) Q E s := by
  unfold dictDisplay
  dsimp only
  rw [List.forIn_cons]
  refine wpAny_bind (wpAny_bind ?_)
  dsimp only
  refine wpAny_bind (wpAny_pure ?_)
  dsimp only
  refine wpAny_bind (wpAny_alloc ?_)
  refine wpAny_bind (wpAny_holding (wpAny_mono h (fun m s₁ h₁ => ?_) fun _ _ x => x.elim))
  refine wpAny_bind (wpAny_onRaise (wpAny_tryCatch (wpAny_onRaise (wpAny_holding (wpAny_mono h₁ (fun _ s₂ h₂ => ?_) fun _ _ x => x.elim)))))
  refine wpAny_pure ?_
  dsimp only
  rw [gatherD (d := s.heap.objs.size) (fun p run hr => by
    have hne : ((run ++ [(p.1, p.2)]).length == 17) = false := by simp; omega
    simp only [hne, Bool.false_eq_true, if_false]) pairs [] (by simpa using hlen)]
  refine wpAny_pure ?_
  dsimp only [List.nil_append]
  rw [h0]
  refine wpAny_bind (wpAny_bind (wpAny_holding (wpAny_mono h₂ (fun sub s₃ h₃ => ?_) fun _ _ x => x.elim)))
  refine wpAny_bind (wpAny_onRaise (wpAny_holding (wpAny_mono h₃ (fun _ s₄ h₄ => ?_) fun _ _ x => x.elim)))
  exact wpAny_pure (wpAny_pure h₄)
end

theorem at_G1 : True := by w_top off; trivial
noncomputable def GivesV (prog : Program) (w : World) (A : Around) (t : Sem Value) (P : Value → Prop) : Prop := ∀ (Q E : Value → Shared → Prop) (s : Shared), (∀ v tk, P v → Q v { s with toks := tk }) → wpAny (model prog w) A t Q E s
inductive PairsGive (prog : Program) (w : World) (A : Around) : List (Sem Value × Sem Value) → List (Str × Int) → Prop
  | nil : PairsGive prog w A [] []
  | cons {k v r x i c} : GivesV prog w A k (fun a => ∃ t, a = .str x t) → GivesV prog w A v (fun a => ∃ t, a = .int i t) → PairsGive prog w A r c → PairsGive prog w A ((k, v) :: r) ((x, i) :: c)
section
variable {prog : Program} {w : World} {A : Around} {E : Value → Shared → Prop} {s : Shared}
noncomputable abbrev tabD (c : List (Str × Int)) : List (PyData × PyData) := c.map fun p => (PyData.str p.1, PyData.int p.2)
theorem pairs_eval {pairs : List (Sem Value × Sem Value)} {c : List (Str × Int)} (h : PairsGive prog w A pairs c) : ∀ {s : Shared} {Q : List (Value × Value) → Shared → Prop},
    (∀ vs kvs tk, Carries (strKind prog w) vs kvs → PyProof.V.FlatPairs PyData.str kvs (tabD c) → kvs.map (·.1) = c.map (·.1) → Q vs { s with toks := tk }) → wpAny (model prog w) A (evalPairs pairs) Q E s := by
  induction h with
  | nil => intro s Q hQ; exact evalPairs_nil (hQ [] [] s.toks trivial .nil rfl)
  | @cons k v r x i c hk hv _ ih =>
    intro s Q hQ
    refine evalPairs_cons (hk _ _ _ fun a tk ha => hv _ _ _ fun b tk' hb => ih fun vs kvs tk2 h1 h2 h3 => ?_)
    obtain ⟨t, rfl⟩ := ha
    obtain ⟨t', rfl⟩ := hb
    exact hQ _ ((x, .int i t') :: kvs) tk2 ⟨strKind_is prog w x t, rfl, h1⟩ (.cons (PyProof.V.Flat.int i t') h2) (by simp [h3])
noncomputable abbrev env0 : Env := envOf (Str.ofString "") { kind := .function, names := [], isGenerator := false, isCoroutine := false } 0 0 .none
theorem give_str {x : Str} : GivesV prog w A (constValue env0 (.str x)) (fun a => ∃ t, a = .str x t) := fun Q E s h => Constant_str (M := model prog w) (A := A) (E := E) (s := s) (Q := Q) (env := env0) (k := 0) (pos := ⟨0, 0, 0, 0⟩) (h _ _ ⟨_, rfl⟩)
theorem give_int {i : Int} {k : Nat} {pos p : Pos} {env : Env} : GivesV prog w A (do let x ← eval (.Constant (.int i) k pos) env; standAt p; pure x) (fun a => ∃ t, a = .int i t) :=
  fun _ _ _ h => wpAny_bind (wpAny_Constant_int (wpAny_bind (wpAny_standAt (wpAny_pure (h _ _ ⟨_, rfl⟩)))))
theorem flatPairs_append {K : Type} {enc : K → PyData} {a b : List (K × Value)} {c d : List (PyData × PyData)} (h : PyProof.V.FlatPairs enc a c) (h' : PyProof.V.FlatPairs enc b d) : PyProof.V.FlatPairs enc (a ++ b) (c ++ d) := by
  induction h with
  | nil => exact h'
  | cons x _ ih => exact .cons x ih
theorem star_dict {d1 : Addr} {kvs : List (Str × Value)} {c1 c2 : List (Str × Int)} {v0 : Sem Value} {pairs : List (Sem Value × Sem Value)} {Q : Value → Shared → Prop} (hlow : sysModules < s.heap.objs.size) (hd1 : s.heap.DictOf (strKind prog w) d1 kvs) (hm1 : (d1 == sysModules) = false)
    (hf : PyProof.V.FlatPairs PyData.str kvs (tabD c1)) (hk1 : kvs.map (·.1) = c1.map (·.1)) (hp : PairsGive prog w A pairs c2) (hlen : pairs.length ≤ 15) (h0 : pairs.isEmpty = false) (hnd : ((c1 ++ c2).map (·.1)).Nodup) (hl : (c1 ++ c2).length ≤ 1000)
    (hv0 : wpAny (model prog w) A v0 (fun v s' => v = .ref d1 ∧ s' = { s with heap := s.heap.push { cls := .type "dict", data := .dict #[] } }) (fun _ _ => False) { s with heap := s.heap.push { cls := .type "dict", data := .dict #[] } })
    (hQ : ∀ D h' tk, s.heap.StaysIn h' → s.heap.get? D = none → StrTab prog w h' D (tabD (c1 ++ c2)) → Q (.ref D) { s with heap := h', toks := tk }) :
    wpAny (model prog w) A (dictDisplay ((none, v0) :: pairs.map fun p => (some p.1, p.2))) Q E s := by
  have lt1 : d1 < s.heap.objs.size := by obtain ⟨o, ho, _⟩ := Heap.dictOf_iff.mp hd1; exact Heap.lt_size ho
  refine display_star (by omega) h0 (wpAny_mono hv0 (fun v s' h => ?_) fun _ _ x => x)
  obtain ⟨rfl, rfl⟩ := h
  refine merge_new (Nat.ne_of_lt lt1) (hd1.push _) (Heap.DictOf.new _) hm1 (by simp) ?_ fun h1 hD1 hs1 => ?_
  · have e1 := congrArg List.length hk1
    simp at e1 hl ⊢; omega
  have z1 : h1.objs.size = s.heap.objs.size + 1 := by rw [hs1.1]; exact Heap.size_push _ _
  refine wpAny_subDict (knd := strKind prog w) hlen (pairs_eval hp fun vs kvs2 tk hc hf2 hk2 => ⟨kvs2, hc, Heap.DictOf.new _, fun h2 hD2 hs2 => ?_⟩)
  have e2 : merged [] kvs2 = kvs2 := merged_nil_of_nodup _ (by rw [hk2]; rw [List.map_append, List.nodup_append] at hnd; exact hnd.2.1)
  rw [e2] at hD2
  have ne : h1.objs.size ≠ s.heap.objs.size := by rw [z1]; exact Nat.succ_ne_self _
  have hD1' : h2.DictOf (strKind prog w) s.heap.objs.size ([] ++ kvs) := (hD1.push _).sameBut hs2 (Ne.symm ne)
  refine merge_new ne hD2 hD1' ?_ ?_ ?_ fun h3 hD3 hs3 => ?_
  · have : h1.objs.size ≠ sysModules := Nat.ne_of_gt (by rw [z1]; exact Nat.lt_succ_of_lt hlow)
    simpa using this
  · intro x hx hx'
    rw [List.nil_append, hk1] at hx'
    rw [List.map_append, List.nodup_append] at hnd
    exact hnd.2.2 _ hx' x.1 (by rw [← hk2]; exact List.mem_map_of_mem hx) rfl
  · have e1 := congrArg List.length hk1
    have e3 := congrArg List.length hk2
    simp at e1 e3 hl ⊢; omega
  · refine hQ _ h3 _ (fun b o e => ?_) (by cases e : s.heap.get? s.heap.objs.size with
      | none => rfl
      | some o => exact absurd (Heap.lt_size e) (Nat.lt_irrefl _)) ⟨?_, _, hD3, ?_⟩
    · have lb : b < s.heap.objs.size := Heap.lt_size e
      rw [hs3.2 b (Nat.ne_of_lt lb), hs2.2 b (by rw [z1]; exact Nat.ne_of_lt (Nat.lt_succ_of_lt lb))]
      refine Heap.get?_push_of_some _ ?_
      rw [hs1.2 b (Nat.ne_of_lt lb)]
      exact Heap.get?_push_of_some _ e
    · have : s.heap.objs.size ≠ sysModules := Nat.ne_of_gt hlow
      simpa using this
    · have := flatPairs_append hf hf2
      simpa [tabD] using this
end

noncomputable def filesC : List (Str × Int) := [(Str.ofString "/a/b\"c", 33188), (Str.ofString "/d", 33152), (Str.ofString "/a/x\\y", 35244), (Str.ofString "/d d", 34180), (Str.ofString "/p", 35309)]
noncomputable def restC : List (Str × Int) := [(Str.ofString "/", 16877), (Str.ofString "/a", 17353), (Str.ofString "/a/n", 41471), (Str.ofString "/t", 17406), (Str.ofString "/c", 8630), (Str.ofString "/k", 50685), (Str.ofString "/i", 4516), (Str.ofString "/v", 25008), (Str.ofString "/u", 420)]
noncomputable def siteC : List (Str × Int) := filesC ++ restC
theorem star_eval {prog : Program} {w : World} {A : Around} {E : Value → Shared → Prop} {s : Shared} {d1 : Addr} {kvs : List (Str × Value)} {D1 : List (PyData × PyData)} {c1 c2 : List (Str × Int)} {v0 : Sem Value} {pairs : List (Sem Value × Sem Value)} {Q : Value → Shared → Prop} {keys : List (Option Expr)} {values : List Expr} {pos : Pos} {env : Env} {o : Obj} {h₀ : Heap} {L : Addr} {m : Str → Option Value} (F : Fr h₀ L s.heap m) (hlow : sysModules < h₀.objs.size) (hg : s.heap.get? d1 = some o) (hd1 : o.IsDictOf (strKind prog w) kvs) (hm1 : (d1 == sysModules) = false)
    (hf : PyProof.V.FlatPairs PyData.str kvs D1) (hk1 : kvs.map (·.1) = c1.map (·.1)) (hD1 : D1 = tabD c1)
    (hshape : (evalEachOpt keys env).zip ((evalEach values env).map fun v => do let x ← v; standAt pos; pure x) = (none, v0) :: pairs.map fun p => (some p.1, p.2)) (hp : PairsGive prog w A pairs c2) (hlen : pairs.length ≤ 15) (h0 : pairs.isEmpty = false) (hnd : ((c1 ++ c2).map (·.1)).Nodup) (hl : (c1 ++ c2).length ≤ 1000)
    (hv0 : ∀ s' : Shared, Fr h₀ L s'.heap m → wpAny (model prog w) A v0 (fun v s2 => v = .ref d1 ∧ s2 = s') (fun _ _ => False) s')
    (hQ : ∀ D h' tk, Fr h₀ L h' m → s.heap.StaysIn h' → s.heap.get? D = none → StrTab prog w h' D (tabD (c1 ++ c2)) → Q (.ref D) { s with heap := h', toks := tk }) :
    wpAny (model prog w) A (eval (.Dict keys values pos) env) Q E s := by
  rw [arm_eval_Dict, hshape]
  subst hD1
  refine wpAny_bind (wpAny_standAt (star_dict (Nat.lt_trans hlow (Nat.lt_of_le_of_lt F.above F.ns.lt)) (Heap.dictOf_iff.mpr ⟨o, hg, hd1⟩) hm1 hf hk1 hp hlen h0 hnd hl (hv0 _ (F.push _)) fun D h' tk st hn hT => hQ D h' tk (Fr.keeps F st) st hn hT))
theorem nil_of {h₀ h : Heap} {L : Addr} {m : Str → Option Value} (_ : Fr h₀ L h m) : News h₀ L h [] := News.nil
theorem fresh0 {h g h1 : Heap} {L D : Addr} {m : Str → Option Value} (st : h.StaysIn g) (F : Fr g L h1 m) (hn : h1.get? D = none) : h.get? D = none := by
  cases e : h.get? D with
  | none => rfl
  | some o => have := F.keep _ _ (st _ _ e); rw [hn] at this; cases this
section
local macro_rules | `(tactic| walk_at "eval Dict") => `(tactic| (k_here; (with_reducible show wpAny _ _ (eval (Expr.Dict (none :: _) _ _) _) _ _ _); refine Hold.out ?_))
theorem site_c (w : World) : Pure 1 w 341 [] (fun _ => True) (fun h h' v => ∃ D, v = .ref D ∧ h.get? D = none ∧ StrTab PySem.Challenge.rw_ny0294_01.row.prog w h' D (tabD siteC)) := by
  ((intro mean9z mg9z mb9z dp9z un9z gd9z cn9z cs9z a9z ccd9z cl9z outer9z A₀9z base9z h₀9z L9z m9z s9z Q9z E9z B9z F9z X9z T9z hk9z hdp9z hun9z hpre9z hret9z; refine wpAny_call ?_; k_dflt (((refine' enter0 ?k1 ?k2 ?k3 ?k5 ?kA ?kF ?kK ?k6 ?k7 ?k8 ?k9 ?kB ?_ ?c2 ?c3 ?c4 ?c5; (((case kA => exact rfl); (case kF => exact rfl); (case kK => first | exact rfl | assumption); (case k1 => k_asm); (case k2 => k_asm); (case k3 => k_asm); (try (case k4 => k_asm)); (case k5 => k_asm); (case k6 => k_is); (case k7 => k_is); (case k8 => ktr_room); (try (case k9 => first | exact BindsTo.of_eq rfl | (refine' kp_binds ?kx ?ke; (case kx => k_in); (case ke => exact fun _ => rfl)))))); (((try (case c5 => decide)); (try (case kB => exact locs rfl)); (case c2 => exact rfl); (case c3 => exact rfl); (case c4 => exact rfl); k_whole)); intro g9z L9z h9z FG9z F9z N9z B9z X9z T9z St9z; (try dsimp only); (try k_lift B9z); (try k_fold))))))
  k_steps
  unfold Hold
  rename Fr _ _ _ _ => F9
  rename News _ _ _ _ => N9
  rename Obj.IsDictOf _ _ _ => hO9
  rename PyProof.V.FlatPairs _ _ _ => hP9
  rename Top _ _ _ _ _ _ => T9
  rename Heap.StaysIn _ _ => St9
  refine star_eval (c1 := filesC) (c2 := restC) (pairs := [(_, _), (_, _), (_, _), (_, _), (_, _), (_, _), (_, _), (_, _), (_, _)]) F9 (modules_low T9.nolimit) (N9 _ (.head _)).1 hO9 (by assumption) hP9 rfl rfl rfl
    (.cons give_str give_int (.cons give_str give_int (.cons give_str give_int (.cons give_str give_int (.cons give_str give_int (.cons give_str give_int (.cons give_str give_int (.cons give_str give_int (.cons give_str give_int .nil))))))))) (by simp) rfl (by decide +kernel) (by decide +kernel) (fun s' F' => wpAny_bind (ld F' rfl (wpAny_bind (wpAny_standAt (wpAny_pure ⟨rfl, rfl⟩))))) ?_
  intro D' h' tk' F' st' hn' hT'
  have N' := nil_of F'
  have hfr := fresh0 St9 F9 hn'
  k_steps
  (((with_reducible show Kept _ _ _ _); intro hSt9z; (rename ∀ (v : Value) (h' : Heap) (tk' : Nat), _ => hRet9z); refine hRet9z _ _ _ (by assumption) hSt9z ?_; clear hSt9z hRet9z))
  exact ⟨_, rfl, hfr, hT'⟩
end

theorem at_H1 : True := by w_top off; trivial
section
variable {prog : Program} {w : World} {A : Around} {E : Value → Shared → Prop} {s : Shared}
open Sem (wp)
theorem nextT_item {it l : Addr} {i : Nat} {items : Array Value} {x : Value} {Q : Value → Shared → Prop} (hit : s.heap.IsTupleIter it l i) (hl : s.heap.IsTuple l items) (hx : items[i]? = some x)
    (hQ : ∀ h', h'.IsTupleIter it l (i + 1) → Heap.SameBut it s.heap h' → Q x { s with heap := h' }) : wpAny (model prog w) A (Builtin.SmallTypes.nextOf (.ref it)) Q E s := by
  obtain ⟨o, ho, hc, hd⟩ := id hit
  obtain ⟨ol, hol, _, nl, hdl⟩ := hl
  unfold Builtin.SmallTypes.nextOf
  refine wpAny_bind (wpAny_callSpecial?_slot (name := Str.ofString "__next__") hit.typeIs F.slot_tuple_iterator_next
    (wpAny_call_entry F.slot_tuple_iterator_next hit.typeIs F.entry_tuple_iterator_next ?_ (F.args_tuple_iterator_next_1 _)))
  show wpAny _ _ (field (.ref it) 0 >>= _) _ _ s
  refine wpAny_bind (wpAny_field ho hd (x := .ref l) rfl ?_)
  show wpAny _ _ (if (Value.ref l == Value.none) = true then _ else _) _ _ s
  rw [if_neg (show ¬ ((Value.ref l == Value.none) = true) from Bool.false_ne_true)]
  show wpAny _ _ (field (.ref it) 1 >>= _) _ _ s
  refine wpAny_bind (wpAny_field ho hd (x := .int i 0) rfl ?_)
  show wpAny _ _ (seqItems? (.ref l) >>= _) _ _ s
  refine wpAny_bind (wpAny_seqItems hol hdl ?_)
  simp only [Int.toNat_natCast, hx]
  refine wpAny_bind (wpAny_setField ho hd (by simp) (wpAny_pure ⟨x, rfl, wpAny_pure (hQ _ ?_ (Heap.SameBut.update ..))⟩))
  exact ⟨_, Heap.get?_update_self _ ho (Obj.isFreed_of_fields (Obj.data_mapFields hd _)), (Obj.cls_mapFields ..).trans hc, by
    rw [Obj.data_mapFields hd]; simp [rawInt]⟩
theorem nextT_end {it l : Addr} {i : Nat} {items : Array Value} {Q : Value → Shared → Prop} (hh : A.handled = none) (hit : s.heap.IsTupleIter it l i) (hl : s.heap.IsTuple l items) (hx : items[i]? = none)
    (hE : ∀ h' e, Heap.ExtBut it s.heap h' → (∃ o, h'.get? e = some o ∧ o.cls = .type "StopIteration") → E (.ref e) { s with heap := h' }) : wpAny (model prog w) A (Builtin.SmallTypes.nextOf (.ref it)) Q E s := by
  obtain ⟨o, ho, hc, hd⟩ := id hit
  obtain ⟨ol, hol, _, nl, hdl⟩ := hl
  unfold Builtin.SmallTypes.nextOf
  refine wpAny_bind (wpAny_callSpecial?_slot (name := Str.ofString "__next__") hit.typeIs F.slot_tuple_iterator_next
    (wpAny_call_entry F.slot_tuple_iterator_next hit.typeIs F.entry_tuple_iterator_next ?_ (F.args_tuple_iterator_next_1 _)))
  show wpAny _ _ (field (.ref it) 0 >>= _) _ _ s
  refine wpAny_bind (wpAny_field ho hd (x := .ref l) rfl ?_)
  show wpAny _ _ (if (Value.ref l == Value.none) = true then _ else _) _ _ s
  rw [if_neg (show ¬ ((Value.ref l == Value.none) = true) from Bool.false_ne_true)]
  show wpAny _ _ (field (.ref it) 1 >>= _) _ _ s
  refine wpAny_bind (wpAny_field ho hd (x := .int i 0) rfl ?_)
  show wpAny _ _ (seqItems? (.ref l) >>= _) _ _ s
  refine wpAny_bind (wpAny_seqItems hol hdl ?_)
  simp only [Int.toNat_natCast, hx]
  refine wpAny_bind (wpAny_rule (wpAny_bind (wpAny_setField ho hd (by simp) ?_)))
  show wpAny _ _ (newExc (.type "StopIteration") [] >>= _) _ _ _
  refine wpAny_bind ?_
  simp only [newExc, newTuple]
  refine wpAny_bind (wpAny_newObj_type ?_ (by size_fits))
  refine wpAny_bind (m := firstArgMember _ _) (wpAny_of_eq (a := Value.none) (by first | rfl | (simp only [firstArgMember]; rfl)) ?_)
  refine wpAny_newObj_type ?_ (by size_fits)
  simp only [raiseNew]
  refine wpAny_bind (wpAny_handled ?_)
  first | rw [show A.in1.handled = none from hh] | rw [hh]
  refine wpAny_bind (wpAny_pure (wpAny_throw ?_))
  exact hE _ _ (((Heap.SameBut.update ..).extBut.push _).push _) ⟨_, Heap.get?_push_size _ rfl, rfl⟩
theorem drawsT (hh : A.handled = none) (it l : Addr) (hne : l ≠ it) (items : Array Value) :
    Draws prog w A it [it, l] items.size (fun i v => items[i]? = some v) (fun i h => h.IsTupleIter it l i ∧ h.IsTuple l items) where
  live := fun _ _ st => let ⟨o, ho, _⟩ := st.1; ⟨o, ho⟩
  frame := fun _ _ _ st hk => ⟨st.1.at fun o e => hk it (by simp) o e, st.2.at fun o e => hk l (by simp) o e⟩
  item := fun i s Q E hi st hQ => by
    refine nextT_item st.1 st.2 (x := items[i]) (by simp [hi]) fun h' hit' hs' => ?_
    exact hQ _ h' s.toks (by simp [hi]) ⟨hit', st.2.extBut hs'.extBut hne⟩ hs'
  done := fun s Q E st hE => nextT_end hh st.1 st.2 (by simp) hE
theorem enumT_new (l : Addr) (items : Array Value) (n : Nat) (dct : Option Addr) (sl : Array (Option Value)) :
    Meets (Builtin.«enumerate.__new__» ⟨[.type "enumerate", .ref l], []⟩) (fun _ R s => s.heap.get? l = some { cls := .type "tuple", dict := dct, data := .seq items n, slots := sl } ∧
      R (.ok (.ret (.ref (s.heap.push { cls := .type "tuple_iterator", data := .fields #[.ref l, .int 0 0] }).objs.size)))
        { s with heap := (s.heap.push { cls := .type "tuple_iterator", data := .fields #[.ref l, .int 0 0] }).push { cls := .type "enumerate", data := .fields #[.none, .bool false, .ref s.heap.objs.size, rawInt 0, .none, .none] } }) :=
  .of_wp fun prog w A R s h => by
    obtain ⟨hp, g, d, tk, os⟩ := s; obtain ⟨hl, h⟩ := h
    have hsub := sub_enumerate
    have hL : Heap.IsTuple (Shared.heap ⟨hp, g, d, tk, os⟩) l items := ⟨_, hl, rfl, n, rfl⟩
    wp_walk using AutoSeq1.wpAny_loadPart' hl
    refine wpAny_stack_any fun st => wpAny_pure ?_
    split
    · rename_i c _ _ _ _ _
      cases (c == Value.type "enumerate")
      · wp_walk using AutoSeq1.wpAny_loadPart' hl, wpAny_pyIter_tuple hL
        exact ⟨_, rfl, h⟩
      · wp_walk using AutoSeq1.wpAny_loadPart' hl, wpAny_pyIter_tuple hL
        exact ⟨_, rfl, h⟩
    · wp_walk using AutoSeq1.wpAny_loadPart' hl, wpAny_pyIter_tuple hL
      exact ⟨_, rfl, h⟩
theorem enumT_call {l : Addr} {items : Array Value} {Q : Value → Shared → Prop} (hL : s.heap.IsTuple l items)
    (h : ∀ h', IsEnum h' (s.heap.objs.size + 1) s.heap.objs.size 0 .none → h'.IsTupleIter s.heap.objs.size l 0 →
      (∀ b o, s.heap.get? b = some o → h'.get? b = some o) → Q (.ref (s.heap.objs.size + 1)) { s with heap := h' }) :
    wpAny (model prog w) A (call (.type "enumerate") [.ref l]) Q E s := by
  obtain ⟨⟨c, dct, dt, sl⟩, hl, hc, n, hd⟩ := hL
  replace hc : c = .type "tuple" := hc
  replace hd : dt = .seq items n := hd
  subst hc hd
  refine callType_new F.called_enumerate (by decide) (F.typeCall_enumerate_1 _) (F.newCall_enumerate_1 _) (fun obj => F.args_object_init_2 obj _) F.entry_enumerate_new
    (enumT_new l items n dct sl) ⟨hl, ?_⟩
  have hz : (s.heap.push { cls := .type "tuple_iterator", data := .fields #[.ref l, .int 0 0] }).objs.size = s.heap.objs.size + 1 := Heap.size_push ..
  show _ ∧ _
  rw [hz]
  have he : IsEnum ((s.heap.push { cls := .type "tuple_iterator", data := .fields #[.ref l, .int 0 0] }).push
      { cls := .type "enumerate", data := .fields #[.none, .bool false, .ref s.heap.objs.size, rawInt 0, .none, .none] }) (s.heap.objs.size + 1) s.heap.objs.size 0 .none := by
    have := Heap.get?_push_size (s.heap.push { cls := .type "tuple_iterator", data := .fields #[.ref l, .int 0 0] })
      (o := { cls := .type "enumerate", data := .fields #[.none, .bool false, .ref s.heap.objs.size, rawInt 0, .none, .none] }) rfl
    rw [hz] at this; exact this
  exact ⟨⟨_, he, rfl⟩, h _ he ⟨_, Heap.get?_push_of_some _ (Heap.get?_push_size _ rfl), rfl, rfl⟩ fun b o x => Heap.get?_push_of_some _ (Heap.get?_push_of_some _ x)⟩
end
section
variable {prog : Program} {w : World} {A : Around} {E : Value → Shared → Prop} {s : Shared} {env : Env} {h₀ : Heap} {body : List Stmt} {Q : Flow → Shared → Prop} {K : Frag}
theorem enumK {elts : List Expr} {k : Nat} {pos : Pos} {l : Addr} {lo : Obj} {vs : List Value} {xs : List Itm} {n : Nat} {m₀ : Str → Option Value} {news : List (Addr × Obj)}
    (hh : A.handled = none) (F : Fr h₀ env.locals s.heap m₀) (N : News h₀ env.locals s.heap news) (X₀ : K.In h₀) (hk : K.lookup l = some lo) (hc : lo.cls = .type "tuple") (hd : lo.data = .seq vs.toArray n) (hx : enumItems 0 vs = xs)
    (rest₀ : ∀ I : Addr, (∀ p ∈ news, p.1 < I) → ItemsRest prog w A E h₀ env (.Tuple elts k pos) body Q s [(I + 1, "enumerate"), (I, "tuple_iterator")] [] xs m₀ news) :
    wpAny (model prog w) A (call (.type "enumerate") [.ref l]) (fun xv s₁ => wpAny (model prog w) A (pyIter xv) (fun it s₂ => TurnsAt prog w A h₀ env (.Tuple elts k pos) body Q E it s₂) E s₁) E s := by
  subst hx
  have hg : h₀.get? l = some lo := X₀ _ _ hk
  have hax : s.heap.get? l = some lo := F.keep _ _ hg
  have hl : s.heap.IsTuple l vs.toArray := ⟨lo, hax, hc, n, hd⟩
  have hlt : l < s.heap.objs.size := Heap.lt_size hax
  have hLs : env.locals < s.heap.objs.size := F.ns.lt
  refine enumT_call hl fun h' hE hI hkp => ?_
  refine wpAny_pyIter_enum hE ?_
  refine ktg_core (tk0 := s.toks) (keep := []) (KTurns.ofWalksU (WalksT.enumerateD (drawsT (A := A.in1) hh s.heap.objs.size l (Nat.ne_of_lt hlt) vs.toArray) (s.heap.objs.size + 1) (Nat.succ_ne_self _) ?_ (by simp)).toU) (by simp [enumItems_length]) ?_ ?_ ?_ ?_ ?_ ?_ ?_ ?_ (F.keeps hkp) (N.grown hkp) trivial (rest₀ _ fun p hp => Heap.lt_size (N p hp).1)
  · intro hm
    rcases List.mem_cons.mp hm with e | hm
    · exact Nat.succ_ne_self _ e
    · exact ktu_ne 1 hlt (List.mem_singleton.mp hm).symm
  · rintro i v h ⟨T, vals, rfl, ⟨t, x, hx, rfl⟩, hT⟩
    refine ⟨_, enumItems_get vs 0 i (v := x) (by simpa using hx), T, t, rfl, ?_⟩
    show IsTup h T #[.int ((0 + i : Nat) : Int) t, x]
    rw [Nat.zero_add]
    exact hT
  · rintro i h ⟨⟨old, he⟩, ⟨oi, hoi, hic, _⟩, _⟩
    have he' : ∃ oe : Obj, h.get? (s.heap.objs.size + 1) = some oe ∧ oe.cls = .type "enumerate" := ⟨_, he, rfl⟩
    obtain ⟨oe, h1, h2⟩ := he'
    refine ⟨[(s.heap.objs.size + 1, oe), (s.heap.objs.size, oi)], ⟨⟨rfl, h2⟩, ⟨rfl, hic⟩, trivial⟩, fun p hp => ?_⟩
    rcases List.mem_cons.mp hp with rfl | hp
    · exact h1
    · rw [List.mem_singleton.mp hp]; exact hoi
  · intro b hb
    have hb' : b = s.heap.objs.size + 1 ∨ b = s.heap.objs.size := by simpa using hb
    rcases hb' with rfl | rfl
    · exact ⟨by simp, ktu_new F (Nat.le_add_right _ _)⟩
    · exact ⟨by simp, ktu_new F (Nat.le_refl _)⟩
  · intro b hb
    simpa using hb
  · intro b hb
    have hb' : b = s.heap.objs.size + 1 ∨ b = s.heap.objs.size ∨ b = l := by simpa using hb
    rcases hb' with rfl | rfl | rfl
    · exact .inl (by simp)
    · exact .inl (by simp)
    · exact .inr (.inr ⟨lo, hg⟩)
  · intro hI'
    have hb' : env.locals = s.heap.objs.size + 1 ∨ env.locals = s.heap.objs.size ∨ env.locals = l := by simpa using hI'
    rcases hb' with e | e | e
    · exact ktu_ne 1 hLs e
    · exact Nat.ne_of_lt hLs e
    · exact absurd (Heap.lt_size hg) (Nat.not_lt.mpr (e ▸ F.above))
  · intro p hp hI'
    have hb' : p.1 = s.heap.objs.size + 1 ∨ p.1 = s.heap.objs.size := by simpa using hI'
    have hlp := Heap.lt_size (N p hp).1
    rcases hb' with e | e
    · exact ktu_ne 1 hlp e
    · exact Nat.ne_of_lt hlp e
  · exact ⟨⟨.none, hE⟩, hI, hl.at fun o e => hkp l o e⟩
end

theorem at_H2 : True := by w_top off; trivial
/-- what is left of a for with an else over the values vs -/
noncomputable def ItemsE (prog : Program) (w : World) (A : Around) (h₀ : Heap) (env : Env) (target : Expr) (body orelse : List Stmt) (Q : Flow → Shared → Prop) (s : Shared) : List Value → (Str → Option Value) → List (Addr × Obj) → Prop
  | [], m, news => ∀ h tk, Fr h₀ env.locals h m → News h₀ env.locals h news → wpAny (model prog w) A (execs orelse env) Q (fun _ _ => False) { s with heap := h, toks := tk }
  | v :: r, m, news => ∀ h tk I oI, Fr h₀ env.locals h m → News h₀ env.locals h ((I, oI) :: news) → (∀ p ∈ news, p.1 ≠ I) →
      wpAny (model prog w) A (assign target env v) (fun _ s₂ => wpAny (model prog w) A (execs body env) (fun f s₃ => match f with
        | .ret u => Q (.ret u) s₃
        | .brk => Q .next s₃
        | _ => ∃ h' tk' m' news', s₃ = { s with heap := h', toks := tk' } ∧ Fr h₀ env.locals h' m' ∧ News h₀ env.locals h' ((I, oI) :: news') ∧ (∀ p ∈ news', p.1 ≠ I) ∧ ItemsE prog w A h₀ env target body orelse Q s r m' news') (fun _ _ => False) s₂) (fun _ _ => False) { s with heap := h, toks := tk }
section
variable {prog : Program} {w : World} {A : Around} {s : Shared} {env : Env} {h₀ : Heap} {target : Expr} {body orelse : List Stmt} {Q : Flow → Shared → Prop}
theorem forE_loop {R : Result → Shared → Prop} {I ax : Addr} {vs : List Value} {m : Str → Option Value} {news : List (Addr × Obj)} {lo : Obj} {n : Nat} (hh : A.handled = none) (hg : h₀.get? ax = some lo) (hc : lo.cls = .type "tuple") (hd : lo.data = .seq vs.toArray n)
    (hI₀ : h₀.get? I = none) (hIL : env.locals ≠ I) (hst : s.heap.IsTupleIter I ax 0) (F : Fr h₀ env.locals s.heap m) (N : News h₀ env.locals s.heap news) (hnw : ∀ p ∈ news, p.1 ≠ I)
    (hR : ∀ f s', Q f s' → R (.ok f) s') (h0 : ItemsE prog w A h₀ env target body orelse Q s vs m news) :
    codeAny (model prog w) A (.forLoop target (.ref I) body orelse env) R s := by
  have hax : ax ≠ I := fun e => by rw [e, hI₀] at hg; cases hg
  have old : ∀ b o, h₀.get? b = some o → b ≠ I := fun b o e e' => by rw [e', hI₀] at e; cases e
  refine codeAny_forLoop_any (fun k s' => ∃ h' tk m' news' i, s' = { s with heap := h', toks := tk } ∧ h'.IsTupleIter I ax i ∧ Fr h₀ env.locals h' m' ∧ News h₀ env.locals h' news' ∧ (∀ p ∈ news', p.1 ≠ I) ∧ i ≤ vs.length ∧ k = vs.length + 1 - i ∧ ItemsE prog w A h₀ env target body orelse Q s (vs.drop i) m' news') ?_ (vs.length + 1)
    ⟨s.heap, s.toks, m, news, 0, rfl, hst, F, N, hnw, Nat.zero_le _, rfl, by rw [List.drop_zero]; exact h0⟩
  rintro k s' ⟨h', tk, m', news', i, rfl, hit, F', N', hnw', hi, rfl, hr⟩
  have ht : h'.IsTuple ax vs.toArray := ⟨lo, F'.keep _ _ hg, hc, n, hd⟩
  by_cases hlt : i < vs.length
  · refine wpAny_pyNext_tuple_item hit ht (x := vs[i]) (by simp [hlt]) fun h₁ hit₁ hs₁ => ?_
    refine letGo_tupleiter hit₁ ?_
    have hk₁ : ∀ b o, b ≠ I → h'.get? b = some o → h₁.get? b = some o := fun b o hb e => (hs₁.2 b hb).trans e
    have F₁ : Fr h₀ env.locals h₁ m' := ⟨F'.ns.at' fun o e => hk₁ _ o hIL e, fun b o e => hk₁ b o (old b o e) (F'.keep b o e), F'.above⟩
    have N₁ : News h₀ env.locals h₁ news' := fun p hp => ⟨hk₁ _ _ (hnw' p hp) (N' p hp).1, (N' p hp).2⟩
    obtain ⟨oI, hoI, hic, hid⟩ := hit₁
    rw [List.drop_eq_getElem_cons hlt] at hr
    have step := hr h₁ tk I oI F₁ (fun p hp => by
      rcases List.mem_cons.mp hp with rfl | hp
      · exact ⟨hoI, fun e => hIL e.symm, hI₀⟩
      · exact N₁ p hp) hnw'
    refine wpAny_mono step (fun _ s₂ h₂ => wpAny_mono h₂ (fun f s₃ h₃ => ?_) fun _ _ x => x.elim) fun _ _ x => x.elim
    cases f with
    | ret u => exact hR _ _ h₃
    | brk => exact hR _ _ h₃
    | next =>
      obtain ⟨h4, tk4, m4, n4, rfl, F4, N4, hw4, r4⟩ := h₃
      exact ⟨vs.length + 1 - (i + 1), by omega, h4, tk4, m4, n4, i + 1, rfl, ⟨oI, (N4 _ (.head _)).1, hic, hid⟩, F4, fun p hp => N4 p (.tail _ hp), hw4, hlt, rfl, r4⟩
    | cont =>
      obtain ⟨h4, tk4, m4, n4, rfl, F4, N4, hw4, r4⟩ := h₃
      exact ⟨vs.length + 1 - (i + 1), by omega, h4, tk4, m4, n4, i + 1, rfl, ⟨oI, (N4 _ (.head _)).1, hic, hid⟩, F4, fun p hp => N4 p (.tail _ hp), hw4, hlt, rfl, r4⟩
  · have hin : i = vs.length := by omega
    subst hin
    refine wpAny_pyNext_tuple_end hh hit ht (by simp) fun h₁ hs₁ => ?_
    have hk₁ : ∀ b o, b ≠ I → h'.get? b = some o → h₁.get? b = some o := fun b o hb e => hs₁ b o hb e
    have F₁ : Fr h₀ env.locals h₁ m' := ⟨F'.ns.at' fun o e => hk₁ _ o hIL e, fun b o e => hk₁ b o (old b o e) (F'.keep b o e), F'.above⟩
    have N₁ : News h₀ env.locals h₁ news' := fun p hp => ⟨hk₁ _ _ (hnw' p hp) (N' p hp).1, (N' p hp).2⟩
    rw [List.drop_length] at hr
    exact wpAny_mono (hr h₁ tk F₁ N₁) (fun f s₃ x => hR _ _ x) fun _ _ x => x.elim
theorem ItemsE.state {hp : Heap} : ∀ {vs : List Value} {m : Str → Option Value} {news : List (Addr × Obj)}, ItemsE prog w A h₀ env target body orelse Q s vs m news → ItemsE prog w A h₀ env target body orelse Q { s with heap := hp } vs m news
  | [], _, _, h => h
  | v :: r, m, news, h => fun h1 tk I oI F N hn => wpAny_mono (h h1 tk I oI F N hn) (fun _ s₂ h₂ => wpAny_mono h₂ (fun f s₃ h₃ => by
      cases f with
      | ret u => exact h₃
      | brk => exact h₃
      | next =>
        obtain ⟨h4, tk4, m4, n4, e4, F4, N4, hw4, r4⟩ := h₃
        exact ⟨h4, tk4, m4, n4, e4, F4, N4, hw4, ItemsE.state r4⟩
      | cont =>
        obtain ⟨h4, tk4, m4, n4, e4, F4, N4, hw4, r4⟩ := h₃
        exact ⟨h4, tk4, m4, n4, e4, F4, N4, hw4, ItemsE.state r4⟩) fun _ _ x => x) fun _ _ x => x
theorem For_else {y : Str} {py pos : Pos} {ax : Addr} {vs : List Value} {m : Str → Option Value} {news : List (Addr × Obj)} {lo : Obj} {n : Nat} (hh : A.handled = none) (hg : h₀.get? ax = some lo) (hc : lo.cls = .type "tuple") (hd : lo.data = .seq vs.toArray n)
    (F : Fr h₀ env.locals s.heap m) (N : News h₀ env.locals s.heap news)
    (hev : ∀ Q' : Value → Shared → Prop, Q' (.ref ax) s → wpAny (model prog w) A (eval (.Name y py) env) Q' (fun _ _ => False) s)
    (h0 : ItemsE prog w A h₀ env target body orelse Q s vs m news)
    (hs : ∀ x, foldedSetIterable (.Name y py) env x = pure x := by intro _; rfl) :
    wpAny (model prog w) A (exec (.For target (.Name y py) body orelse pos) env) Q (fun _ _ => False) s := by
  refine wpAny_For (hev _ ?_) hs
  refine wpAny_pyIter_tuple (t := ax) (items := vs.toArray) ⟨lo, F.keep _ _ hg, hc, n, hd⟩ ?_
  have hne : ax ≠ s.heap.objs.size := Nat.ne_of_lt (Heap.lt_size (F.keep _ _ hg))
  refine forE_loop (s := { s with heap := s.heap.push { cls := .type "tuple_iterator", data := .fields #[.ref ax, .int 0 0] } }) (m := m) (news := news) hh hg hc hd (next_is_new F) (Nat.ne_of_lt F.ns.lt) ⟨_, Heap.get?_push_size _ rfl, rfl, rfl⟩ (F.push _) (fun p hp => ⟨Heap.get?_push_of_some _ (N p hp).1, (N p hp).2⟩) (fun p hp e => absurd (Heap.lt_size (N p hp).1) (e ▸ Nat.lt_irrefl _)) (fun f s' x => x) ?_
  exact ItemsE.state h0
end

theorem at_H3 : True := by w_top off; trivial
noncomputable abbrev fmap (md i : Int) (tm ti : Tok) (ax P : Addr) (u : Str → Option Value) : Str → Option Value :=
  fun y => if y = Str.ofString "bit" then u y else if y = Str.ofString "char" then u y else if y = Str.ofString "mode" then some (.int md tm) else if y = Str.ofString "index" then some (.int i ti) else if y = Str.ofString "table" then some (.ref ax) else if y = Str.ofString "perm" then some (.ref P) else u y
noncomputable def Off2 (m' m : Str → Option Value) : Prop := ∀ z, z ≠ Str.ofString "bit" → z ≠ Str.ofString "char" → m' z = m z
theorem fmap_of {m' m : Str → Option Value} {md i : Int} {tm ti : Tok} {ax P : Addr} (h : Off2 m' m) (e1 : m (Str.ofString "mode") = some (.int md tm)) (e2 : m (Str.ofString "index") = some (.int i ti)) (e3 : m (Str.ofString "table") = some (.ref ax)) (e4 : m (Str.ofString "perm") = some (.ref P)) : fmap md i tm ti ax P m' = m' := by
  funext y
  show (if _ then _ else _) = _
  by_cases h1 : y = Str.ofString "bit"
  · rw [if_pos h1]
  rw [if_neg h1]
  by_cases h2 : y = Str.ofString "char"
  · rw [if_pos h2]
  rw [if_neg h2, h y h1 h2]
  by_cases h3 : y = Str.ofString "mode"
  · rw [if_pos h3, h3, e1]
  rw [if_neg h3]
  by_cases h4 : y = Str.ofString "index"
  · rw [if_pos h4, h4, e2]
  rw [if_neg h4]
  by_cases h5 : y = Str.ofString "table"
  · rw [if_pos h5, h5, e3]
  rw [if_neg h5]
  by_cases h6 : y = Str.ofString "perm"
  · rw [if_pos h6, h6, e4]
  rw [if_neg h6]
noncomputable def hit (i md bit : Int) : Prop := if i = 0 then Builtin.bitAnd md 61440 = bit else Builtin.bitAnd md bit = bit
noncomputable def signOf (i md : Int) : List (Int × Str) → Str
  | [] => if i = 0 then Str.ofString "?" else Str.ofString "-"
  | (b, c) :: r => if (if i = 0 then Builtin.bitAnd md 61440 = b else Builtin.bitAnd md b = b) then c else signOf i md r
inductive RowsAt (K : Frag) : List Addr → List (Int × Str) → Prop
  | nil : RowsAt K [] []
  | cons {a ads b c t u r} : K.lookup a = some (tupObj [.int b t, .str c u]) → RowsAt K ads r → RowsAt K (a :: ads) ((b, c) :: r)
noncomputable def TurnPost (h₀ : Heap) (L : Addr) (i md bit : Int) (char : Str) (P : Addr) (us : List Value) (n : Nat) (rest : List (Addr × Obj)) (m : Str → Option Value) (s : Shared) (f : Flow) (s₃ : Shared) : Prop := match f with
  | .ret _ => False
  | .brk => hit i md bit ∧ ∃ h' tk' m' n' t, s₃ = { s with heap := h', toks := tk' } ∧ Off2 m' m ∧ Fr h₀ L h' m' ∧ News h₀ L h' ((P, listOf (us ++ [Value.str char t]).toArray n') :: rest)
  | _ => ¬ hit i md bit ∧ ∃ h' tk' m', s₃ = { s with heap := h', toks := tk' } ∧ Off2 m' m ∧ Fr h₀ L h' m' ∧ News h₀ L h' ((P, listOf us.toArray n) :: rest)
noncomputable def ElsePost (h₀ : Heap) (L : Addr) (i : Int) (P : Addr) (us : List Value) (rest : List (Addr × Obj)) (m : Str → Option Value) (s : Shared) (f : Flow) (s₃ : Shared) : Prop :=
  f = .next ∧ ∃ h' tk' m' n' t, s₃ = { s with heap := h', toks := tk' } ∧ Off2 m' m ∧ Fr h₀ L h' m' ∧ News h₀ L h' ((P, listOf (us ++ [Value.str (if i = 0 then Str.ofString "?" else Str.ofString "-") t]).toArray n') :: rest)
theorem TurnPost.brk {h₀ h' : Heap} {L : Addr} {i md bit : Int} {char : Str} {P : Addr} {us : List Value} {n n' tk' : Nat} {t : Tok} {rest : List (Addr × Obj)} {m m' : Str → Option Value} {s : Shared} (F : Fr h₀ L h' m') (N : News h₀ L h' ((P, listOf (us.toArray.push (Value.str char t)) n') :: rest)) (hh : hit i md bit) (ho : Off2 m' m) :
    TurnPost h₀ L i md bit char P us n rest m s .brk { s with heap := h', toks := tk' } := ⟨hh, h', tk', m', n', t, rfl, ho, F, by rw [List.push_toArray] at N; exact N⟩
theorem TurnPost.next {h₀ h' : Heap} {L : Addr} {i md bit : Int} {char : Str} {P : Addr} {us : List Value} {n tk' : Nat} {rest : List (Addr × Obj)} {m m' : Str → Option Value} {s : Shared} (F : Fr h₀ L h' m') (N : News h₀ L h' ((P, listOf us.toArray n) :: rest)) (hh : ¬ hit i md bit) (ho : Off2 m' m) :
    TurnPost h₀ L i md bit char P us n rest m s .next { s with heap := h', toks := tk' } := ⟨hh, h', tk', m', rfl, ho, F, N⟩
theorem ElsePost.mk {h₀ h' : Heap} {L : Addr} {i : Int} {P : Addr} {us : List Value} {n' tk' : Nat} {t : Tok} {c : Str} {rest : List (Addr × Obj)} {m m' : Str → Option Value} {s : Shared} (F : Fr h₀ L h' m') (N : News h₀ L h' ((P, listOf (us.toArray.push (Value.str c t)) n') :: rest)) (hc : c = if i = 0 then Str.ofString "?" else Str.ofString "-") (ho : Off2 m' m) :
    ElsePost h₀ L i P us rest m s .next { s with heap := h', toks := tk' } := ⟨rfl, h', tk', m', n', t, rfl, ho, F, by rw [List.push_toArray, hc] at N; exact N⟩
noncomputable def TurnOK (prog : Program) (w : World) (K : Frag) (A : Around) (h₀ : Heap) (env : Env) (target : Expr) (body orelse : List Stmt) : Prop :=
  ∀ (md i : Int) (tm ti : Tok) (ax P : Addr) (us : List Value) (n : Nat) (u : Str → Option Value) (rest : List (Addr × Obj)) (s : Shared), us.length ≤ 100 → OwnOff rest [P] → Fr h₀ env.locals s.heap (fmap md i tm ti ax P u) → News h₀ env.locals s.heap ((P, listOf us.toArray n) :: rest) →
    (∀ (a : Addr) (bit : Int) (char : Str) (t1 t2 : Tok), K.lookup a = some (tupObj [.int bit t1, .str char t2]) →
    wpAny (model prog w) A (assign target env (.ref a)) (fun _ s₂ => wpAny (model prog w) A (execs body env) (TurnPost h₀ env.locals i md bit char P us n rest (fmap md i tm ti ax P u) s) (fun _ _ => False) s₂) (fun _ _ => False) s) ∧
    wpAny (model prog w) A (execs orelse env) (ElsePost h₀ env.locals i P us rest (fmap md i tm ti ax P u) s) (fun _ _ => False) s
theorem Off2.trans {a b c : Str → Option Value} (h : Off2 a b) (h' : Off2 b c) : Off2 a c := fun z h1 h2 => (h z h1 h2).trans (h' z h1 h2)
section
variable {prog : Program} {w : World} {K : Frag} {A : Around} {h₀ : Heap} {env : Env} {target : Expr} {body orelse : List Stmt}
theorem rows_items (T : TurnOK prog w K A h₀ env target body orelse) {md i : Int} {tm ti : Tok} {ax P : Addr} {us : List Value} {n : Nat} {m : Str → Option Value} {rest : List (Addr × Obj)} {s : Shared} {Q : Flow → Shared → Prop} (hus : us.length ≤ 100) (hoff : OwnOff rest [P])
    (e1 : m (Str.ofString "mode") = some (.int md tm)) (e2 : m (Str.ofString "index") = some (.int i ti)) (e3 : m (Str.ofString "table") = some (.ref ax)) (e4 : m (Str.ofString "perm") = some (.ref P)) {ads : List Addr} {rows : List (Int × Str)} (hr : RowsAt K ads rows) :
    ∀ m₁, Off2 m₁ m → (∀ h' tk' m' n' t, Off2 m' m → Fr h₀ env.locals h' m' → News h₀ env.locals h' ((P, listOf (us ++ [Value.str (signOf i md rows) t]).toArray n') :: rest) → Q .next { s with heap := h', toks := tk' }) →
      ItemsE prog w A h₀ env target body orelse Q s (ads.map .ref) m₁ ((P, listOf us.toArray n) :: rest) := by
  induction hr with
  | nil =>
    intro m₁ ho hQ h tk F N
    have em := fmap_of ho e1 e2 e3 e4
    refine wpAny_mono (T md i tm ti ax P us n m₁ rest { s with heap := h, toks := tk } hus hoff (by rw [em]; exact F) N).2 (fun f s₃ x => ?_) fun _ _ x => x
    obtain ⟨rfl, h', tk', m', n', t, rfl, o2, F', N'⟩ := x
    rw [em] at o2
    exact hQ h' tk' m' n' t (o2.trans ho) F' N'
  | @cons a ads b c t u r hk _ ih =>
    intro m₁ ho hQ h tk I oI F N hI
    have em := fmap_of ho e1 e2 e3 e4
    have N1 : News h₀ env.locals h ((P, listOf us.toArray n) :: (I, oI) :: rest) := fun p hp => N p (by
      rcases List.mem_cons.mp hp with rfl | hp
      · exact .tail _ (.head _)
      · rcases List.mem_cons.mp hp with rfl | hp
        · exact .head _
        · exact .tail _ (.tail _ hp))
    have off1 : OwnOff ((I, oI) :: rest) [P] := fun p hp b hb => by
      rcases List.mem_cons.mp hp with rfl | hp
      · rw [List.mem_singleton.mp hb]; exact fun e => hI _ (.head _) e.symm
      · exact hoff p hp b hb
    refine wpAny_mono ((T md i tm ti ax P us n m₁ ((I, oI) :: rest) { s with heap := h, toks := tk } hus off1 (by rw [em]; exact F) N1).1 a b c t u hk) (fun _ s₂ h₂ => wpAny_mono h₂ (fun f s₃ x => ?_) fun _ _ x => x) fun _ _ x => x
    cases f with
    | ret _ => exact x.elim
    | brk =>
      obtain ⟨hh, h', tk', m', n', t, rfl, o2, F', N'⟩ := x
      rw [em] at o2
      refine hQ h' tk' m' n' t (o2.trans ho) F' (fun p hp => ?_)
      have e : signOf i md ((b, c) :: r) = c := if_pos hh
      rw [e] at hp
      rcases List.mem_cons.mp hp with rfl | hp
      · exact N' _ (.head _)
      · exact N' p (.tail _ (.tail _ hp))
    | next =>
      obtain ⟨hh, h', tk', m', rfl, o2, F', N'⟩ := x
      rw [em] at o2
      have e : signOf i md ((b, c) :: r) = signOf i md r := if_neg hh
      rw [e] at hQ
      exact ⟨h', tk', m', _, rfl, F', fun p hp => N' p (by
        rcases List.mem_cons.mp hp with rfl | hp
        · exact .tail _ (.head _)
        · rcases List.mem_cons.mp hp with rfl | hp
          · exact .head _
          · exact .tail _ (.tail _ hp)), hI, ih m' (o2.trans ho) hQ⟩
    | cont =>
      obtain ⟨hh, h', tk', m', rfl, o2, F', N'⟩ := x
      rw [em] at o2
      have e : signOf i md ((b, c) :: r) = signOf i md r := if_neg hh
      rw [e] at hQ
      exact ⟨h', tk', m', _, rfl, F', fun p hp => N' p (by
        rcases List.mem_cons.mp hp with rfl | hp
        · exact .tail _ (.head _)
        · rcases List.mem_cons.mp hp with rfl | hp
          · exact .head _
          · exact .tail _ (.tail _ hp)), hI, ih m' (o2.trans ho) hQ⟩
noncomputable abbrev pmap (md : Int) (tm : Tok) (P : Addr) (u : Str → Option Value) : Str → Option Value := fun y => if y = Str.ofString "mode" then some (.int md tm) else if y = Str.ofString "perm" then some (.ref P) else u y
theorem pmap_of {m' m : Str → Option Value} {md : Int} {tm : Tok} {P : Addr} (h : Off2 m' m) (e1 : m (Str.ofString "mode") = some (.int md tm)) (e4 : m (Str.ofString "perm") = some (.ref P)) : pmap md tm P m' = m' := by
  funext y
  show (if _ then _ else _) = _
  by_cases h1 : y = Str.ofString "mode"
  · rw [if_pos h1, h1, h _ (by decide) (by decide), e1]
  rw [if_neg h1]
  by_cases h2 : y = Str.ofString "perm"
  · rw [if_pos h2, h2, h _ (by decide) (by decide), e4]
  rw [if_neg h2]
theorem inner_for (T : TurnOK prog w K A h₀ env target body orelse) {y : Str} {py pos : Pos} {E : Value → Shared → Prop} {md i : Int} {tm ti : Tok} {ax P : Addr} {us : List Value} {n : Nat} {m : Str → Option Value} {rest : List (Addr × Obj)} {s : Shared} {Q : Flow → Shared → Prop} {ads : List Addr} {rows : List (Int × Str)}
    (hh : A.handled = none) (X : K.In h₀) (F : Fr h₀ env.locals s.heap m) (N : News h₀ env.locals s.heap ((P, listOf us.toArray n) :: rest))
    (e1 : m (Str.ofString "mode") = some (.int md tm)) (e2 : m (Str.ofString "index") = some (.int i ti)) (e3 : m (Str.ofString "table") = some (.ref ax)) (e4 : m (Str.ofString "perm") = some (.ref P)) (hus : us.length ≤ 100) (hoff : OwnOff rest [P])
    (hax : K.lookup ax = some (tupObj (ads.map .ref))) (hr : RowsAt K ads rows)
    (hev : ∀ Q' : Value → Shared → Prop, Q' (.ref ax) s → wpAny (model prog w) A (eval (.Name y py) env) Q' (fun _ _ => False) s)
    (h : ∀ h' tk' u n' t, Fr h₀ env.locals h' (pmap md tm P u) → News h₀ env.locals h' ((P, listOf (us ++ [Value.str (signOf i md rows) t]).toArray n') :: rest) → Q .next { s with heap := h', toks := tk' })
    (hs : ∀ x, foldedSetIterable (.Name y py) env x = pure x := by intro _; rfl) :
    wpAny (model prog w) A (exec (.For target (.Name y py) body orelse pos) env) Q E s :=
  wpAny_noRaise (For_else hh (X _ _ hax) rfl rfl F N hev (rows_items T hus hoff e1 e2 e3 e4 hr m (fun _ _ _ => rfl) fun h' tk' m' n' t o2 F' N' => h h' tk' m' n' t (by rw [pmap_of o2 e1 e4]; exact F') N') hs)
theorem inner_cut {y : Str} {py pos : Pos} {E : Value → Shared → Prop} {s : Shared} {Q : Flow → Shared → Prop} {m : Str → Option Value} (_X : K.In h₀) (_F : Fr h₀ env.locals s.heap m) (T : TurnOK prog w K A h₀ env target body orelse)
    (h : TurnOK prog w K A h₀ env target body orelse → wpAny (model prog w) A (exec (.For target (.Name y py) body orelse pos) env) Q E s) : wpAny (model prog w) A (exec (.For target (.Name y py) body orelse pos) env) Q E s := h T
end
local macro_rules | `(tactic| walk_at "my pad") => `(tactic| fail)
local macro_rules | `(tactic| walk_at "my pad") => `(tactic| fail)
local macro_rules | `(tactic| walk_at "my pad") => `(tactic| fail)
theorem ifmt_c (w : World) (x : Int) (t : Tok) : Pure 1 w 294 [.int x t] (fun _ => True) (fun _ _ v => ∃ t, v = .int (Builtin.bitAnd x 61440) t) := by
  ((intro mean9z mg9z mb9z dp9z un9z gd9z cn9z cs9z a9z ccd9z cl9z outer9z A₀9z base9z h₀9z L9z m9z s9z Q9z E9z B9z F9z X9z T9z hk9z hdp9z hun9z hpre9z hret9z; refine wpAny_call ?_; k_dflt (((refine' enter0 ?k1 ?k2 ?k3 ?k5 ?kA ?kF ?kK ?k6 ?k7 ?k8 ?k9 ?kB ?_ ?c2 ?c3 ?c4 ?c5; (((case kA => exact rfl); (case kF => exact rfl); (case kK => first | exact rfl | assumption); (case k1 => k_asm); (case k2 => k_asm); (case k3 => k_asm); (try (case k4 => k_asm)); (case k5 => k_asm); (case k6 => k_is); (case k7 => k_is); (case k8 => ktr_room); (try (case k9 => first | exact BindsTo.of_eq rfl | (refine' kp_binds ?kx ?ke; (case kx => k_in); (case ke => exact fun _ => rfl)))))); (((try (case c5 => decide)); (try (case kB => exact locs rfl)); (case c2 => exact rfl); (case c3 => exact rfl); (case c4 => exact rfl); k_whole)); intro g9z L9z h9z FG9z F9z N9z B9z X9z T9z St9z; (try dsimp only); (try k_lift B9z); (try k_fold))))))
  repeat' (first | (k_unfold; (try dsimp only)) | (k_end; wrow_close) | with_reducible (k_here; (with_reducible show wpAny _ _ (call (Value.builtin "str.join") [Value.str _ _, Value.ref _]) _ _ _); (with_reducible rename StrsAre _ _ => hSt99z); k_dflt (refine' join_listW (ys := ?ys) ?k1 ?k2 ?k3 ?k4 ?_; (case k1 => exact News.isList (by k_asm) (by k_mem)); (case k2 => simpa using hSt99z); (case k3 => decide); (case k4 => first | omega | (simp only [] at *; omega))); intro t99z k99z) | walk1 | (dsimp only; walk1) | (leave1; walk_say "STEP leave1"; try dsimp only))
  all_goals ((((with_reducible show Kept _ _ _ _); intro hSt9z; (rename ∀ (v : Value) (h' : Heap) (tk' : Nat), _ => hRet9z); refine hRet9z _ _ _ (by assumption) hSt9z ?_; clear hSt9z hRet9z)); exact ⟨_, rfl⟩)
theorem off2_two {a b : Option Value} {m : Str → Option Value} : Off2 (fun y => if y = Str.ofString "char" then a else if y = Str.ofString "bit" then b else m y) m := fun z h1 h2 => by show (if _ then _ else _) = _; rw [if_neg h2, if_neg h1]
theorem off2_refl {m : Str → Option Value} : Off2 m m := fun _ _ _ => rfl
noncomputable def TabAt2 (K : Frag) (ax : Addr) (rows : List (Int × Str)) : Prop := ∃ ads : List Addr, K.lookup ax = some (tupObj (ads.map .ref)) ∧ RowsAt K ads rows
noncomputable def rows0 : List (Int × Str) := [(40960, Str.ofString "l"), (49152, Str.ofString "s"), (32768, Str.ofString "-"), (24576, Str.ofString "b"), (16384, Str.ofString "d"), (8192, Str.ofString "c"), (4096, Str.ofString "p")]
theorem tab0 (w : World) : TabAt2 (Mine.hd.heap_39 w.params) 302 rows0 := by
  refine' ⟨[295, 296, 297, 298, 299, 300, 301], ?_, .cons ?_ (.cons ?_ (.cons ?_ (.cons ?_ (.cons ?_ (.cons ?_ (.cons ?_ .nil))))))⟩
  any_goals k_is
noncomputable def rows1 : List (Int × Str) := [(256, Str.ofString "r")]
theorem tab1 (w : World) : TabAt2 (Mine.hd.heap_39 w.params) 304 rows1 := by
  refine' ⟨[303], ?_, .cons ?_ .nil⟩
  any_goals k_is
noncomputable def rows2 : List (Int × Str) := [(128, Str.ofString "w")]
theorem tab2 (w : World) : TabAt2 (Mine.hd.heap_39 w.params) 306 rows2 := by
  refine' ⟨[305], ?_, .cons ?_ .nil⟩
  any_goals k_is
noncomputable def rows3 : List (Int × Str) := [(2112, Str.ofString "s"), (2048, Str.ofString "S"), (64, Str.ofString "x")]
theorem tab3 (w : World) : TabAt2 (Mine.hd.heap_39 w.params) 310 rows3 := by
  refine' ⟨[307, 308, 309], ?_, .cons ?_ (.cons ?_ (.cons ?_ .nil))⟩
  any_goals k_is
noncomputable def rows4 : List (Int × Str) := [(32, Str.ofString "r")]
theorem tab4 (w : World) : TabAt2 (Mine.hd.heap_39 w.params) 312 rows4 := by
  refine' ⟨[311], ?_, .cons ?_ .nil⟩
  any_goals k_is
noncomputable def rows5 : List (Int × Str) := [(16, Str.ofString "w")]
theorem tab5 (w : World) : TabAt2 (Mine.hd.heap_39 w.params) 314 rows5 := by
  refine' ⟨[313], ?_, .cons ?_ .nil⟩
  any_goals k_is
noncomputable def rows6 : List (Int × Str) := [(1032, Str.ofString "s"), (1024, Str.ofString "S"), (8, Str.ofString "x")]
theorem tab6 (w : World) : TabAt2 (Mine.hd.heap_39 w.params) 318 rows6 := by
  refine' ⟨[315, 316, 317], ?_, .cons ?_ (.cons ?_ (.cons ?_ .nil))⟩
  any_goals k_is
noncomputable def rows7 : List (Int × Str) := [(4, Str.ofString "r")]
theorem tab7 (w : World) : TabAt2 (Mine.hd.heap_39 w.params) 320 rows7 := by
  refine' ⟨[319], ?_, .cons ?_ .nil⟩
  any_goals k_is
noncomputable def rows8 : List (Int × Str) := [(2, Str.ofString "w")]
theorem tab8 (w : World) : TabAt2 (Mine.hd.heap_39 w.params) 322 rows8 := by
  refine' ⟨[321], ?_, .cons ?_ .nil⟩
  any_goals k_is
noncomputable def rows9 : List (Int × Str) := [(513, Str.ofString "t"), (512, Str.ofString "T"), (1, Str.ofString "x")]
theorem tab9 (w : World) : TabAt2 (Mine.hd.heap_39 w.params) 326 rows9 := by
  refine' ⟨[323, 324, 325], ?_, .cons ?_ (.cons ?_ (.cons ?_ .nil))⟩
  any_goals k_is
noncomputable def modeL (x : Int) : List Str := [signOf 0 x rows0, signOf 1 x rows1, signOf 2 x rows2, signOf 3 x rows3, signOf 4 x rows4, signOf 5 x rows5, signOf 6 x rows6, signOf 7 x rows7, signOf 8 x rows8, signOf 9 x rows9]
noncomputable def modeF (x : Int) : Str := Txt.join (Str.ofString "") (modeL x)
theorem signOf_len {i md : Int} : ∀ {rows : List (Int × Str)}, (∀ r ∈ rows, r.2.length = 1) → (signOf i md rows).length = 1
  | [], _ => by unfold signOf; split <;> rfl
  | (b, c) :: r, h => by
    have ih := signOf_len (i := i) (md := md) (rows := r) fun p hp => h p (.tail _ hp)
    show (if (if i = 0 then Builtin.bitAnd md 61440 = b else Builtin.bitAnd md b = b) then c else signOf i md r).length = 1
    by_cases hp : (if i = 0 then Builtin.bitAnd md 61440 = b else Builtin.bitAnd md b = b)
    · rw [if_pos hp]; exact h (b, c) (.head _)
    · rw [if_neg hp]; exact ih
theorem modeL_sum (x : Int) : ((modeL x).map (·.length)).sum + (modeL x).length = 20 := by
  unfold modeL
  simp only [List.map_cons, List.map_nil, List.sum_cons, List.sum_nil, List.length_cons, List.length_nil]
  rw [signOf_len (rows := rows0) (by decide), signOf_len (rows := rows1) (by decide), signOf_len (rows := rows2) (by decide), signOf_len (rows := rows3) (by decide), signOf_len (rows := rows4) (by decide), signOf_len (rows := rows5) (by decide), signOf_len (rows := rows6) (by decide), signOf_len (rows := rows7) (by decide), signOf_len (rows := rows8) (by decide), signOf_len (rows := rows9) (by decide)]
  rfl
theorem news_rot {h₀ h : Heap} {L : Addr} {a b c : Addr × Obj} (N : News h₀ L h [a, b, c]) : News h₀ L h [c, a, b] := fun p hp => N p (by
  rcases List.mem_cons.mp hp with rfl | hp
  · exact .tail _ (.tail _ (.head _))
  · rcases List.mem_cons.mp hp with rfl | hp
    · exact .head _
    · rw [List.mem_singleton.mp hp]; exact .tail _ (.head _))
theorem news_rot2 {h₀ h : Heap} {L : Addr} {a b c : Addr × Obj} (N : News h₀ L h [c, a, b]) : News h₀ L h [a, b, c] := news_rot (news_rot N)
theorem own_two {P I : Nat} {o1 o2 : Obj} (h : P < I) : OwnOff [(I + 1, o1), (I, o2)] [P] := fun p hp b hb => by
  rw [List.mem_singleton.mp hb]
  rcases List.mem_cons.mp hp with rfl | hp
  · exact Nat.ne_of_gt (Nat.lt_succ_of_lt h)
  · rw [List.mem_singleton.mp hp]; exact Nat.ne_of_gt h
theorem inner_forT {prog : Program} {w : World} {K : Frag} {A : Around} {h₀ : Heap} {env : Env} {target : Expr} {body orelse : List Stmt} (T : TurnOK prog w K A h₀ env target body orelse) {y : Str} {py pos : Pos} {E : Value → Shared → Prop} {md i : Int} {tm ti : Tok} {ax P : Addr} {us : List Value} {n : Nat} {m : Str → Option Value} {a b : Addr × Obj} {s : Shared} {Q : Flow → Shared → Prop} {rows : List (Int × Str)}
    (hh : A.handled = none) (X : K.In h₀) (F : Fr h₀ env.locals s.heap m) (N : News h₀ env.locals s.heap [a, b, (P, listOf us.toArray n)])
    (e1 : m (Str.ofString "mode") = some (.int md tm)) (e2 : m (Str.ofString "index") = some (.int i ti)) (e3 : m (Str.ofString "table") = some (.ref ax)) (e4 : m (Str.ofString "perm") = some (.ref P)) (hus : us.length ≤ 100) (hoff : OwnOff [a, b] [P])
    (hax : TabAt2 K ax rows)
    (hev : ∀ Q' : Value → Shared → Prop, Q' (.ref ax) s → wpAny (model prog w) A (eval (.Name y py) env) Q' (fun _ _ => False) s)
    (h : ∀ h' tk' u n' t, Fr h₀ env.locals h' (pmap md tm P u) → News h₀ env.locals h' [a, b, (P, listOf (us ++ [Value.str (signOf i md rows) t]).toArray n')] → Q .next { s with heap := h', toks := tk' })
    (hs : ∀ x, foldedSetIterable (.Name y py) env x = pure x := by intro _; rfl) :
    wpAny (model prog w) A (exec (.For target (.Name y py) body orelse pos) env) Q E s := by
  obtain ⟨ads, hk, hr⟩ := hax
  exact inner_for T hh X F (news_rot N) e1 e2 e3 e4 hus hoff hk hr hev (fun h' tk' u n' t F' N' => h h' tk' u n' t F' (news_rot2 N')) hs
section
local macro_rules | `(tactic| walk_at "exec For Tuple Call cons nil") => `(tactic| (k_here; refine Hold.out ?_))
local macro_rules | `(tactic| walk_at "call type:enumerate") => `(tactic| (k_here; refine Hold.out ?_))
local macro_rules | `(tactic| walk_at "exec For Tuple Name cons cons") => `(tactic| (k_here; refine Hold.out ?_))
local macro_rules | `(tactic| walk_at "UnrEndW") => `(tactic| (k_here; k_dflt (refine UnrEndW.intro (by k_asm) (by k_asm) [_] ⟨.head _, .tail _ (.head _), trivial⟩ ⟨.tail _ (.tail _ (.head _)), trivial⟩ ⟨⟨.inl (Nat.ne_of_lt (Nat.lt_succ_of_lt (by assumption))), .inl (Nat.ne_of_lt (by assumption)), trivial⟩, trivial⟩ ⟨trivial, ?_⟩)))
theorem filemode_c (w : World) (x : Int) (t : Tok) : Pure 2 w 334 [.int x t] (fun _ => True) (fun _ _ v => ∃ t, v = .str (modeF x) t) := by
  ((intro mean9z mg9z mb9z dp9z un9z gd9z cn9z cs9z a9z ccd9z cl9z outer9z A₀9z base9z h₀9z L9z m9z s9z Q9z E9z B9z F9z X9z T9z hk9z hdp9z hun9z hpre9z hret9z; refine wpAny_call ?_; k_dflt (((refine' enter0 ?k1 ?k2 ?k3 ?k5 ?kA ?kF ?kK ?k6 ?k7 ?k8 ?k9 ?kB ?_ ?c2 ?c3 ?c4 ?c5; (((case kA => exact rfl); (case kF => exact rfl); (case kK => first | exact rfl | assumption); (case k1 => k_asm); (case k2 => k_asm); (case k3 => k_asm); (try (case k4 => k_asm)); (case k5 => k_asm); (case k6 => k_is); (case k7 => k_is); (case k8 => ktr_room); (try (case k9 => first | exact BindsTo.of_eq rfl | (refine' kp_binds ?kx ?ke; (case kx => k_in); (case ke => exact fun _ => rfl)))))); (((try (case c5 => decide)); (try (case kB => exact locs rfl)); (case c2 => exact rfl); (case c3 => exact rfl); (case c4 => exact rfl); k_whole)); intro g9z L9z h9z FG9z F9z N9z B9z X9z T9z St9z; (try dsimp only); (try k_lift B9z); (try k_fold))))))
  repeat' (first | (k_unfold; (try dsimp only)) | (k_end; wrow_close) | with_reducible (k_here; (with_reducible show wpAny _ _ (exec (Stmt.For _ _ _ _ _) _) _ _ _); (rename TurnOK _ _ _ _ _ _ _ _ _ => hT99z); (rename Fr _ _ _ _ => lF9z); with_unfolding_all (refine' inner_forT hT99z ?h ?X lF9z ?N ?e1 ?e2 ?e3 ?e4 ?hu ?ho ?ha ?hev ?_; (case h => exact rfl); (case X => k_asm); (case N => k_asm); (case e1 => exact rfl); (case e2 => exact rfl); (case e3 => exact rfl); (case e4 => exact rfl); (case hu => exact Nat.le_of_ble_eq_true rfl); (case ho => exact own_two (by assumption)); (case ha => first | exact tab0 _ | exact tab1 _ | exact tab2 _ | exact tab3 _ | exact tab4 _ | exact tab5 _ | exact tab6 _ | exact tab7 _ | exact tab8 _ | exact tab9 _); (case hev => exact fun Q' hq => ld lF9z rfl hq)); intro h9z tk9z u9z n9z t9z F9z N9z; (try k_fold)) | with_reducible (k_here; (with_reducible show wpAny _ _ (call (Value.ref 294) [Value.int _ _]) _ _ _); k_dflt (refine' Pure.use (ifmt_c _ _ _) ?k1 ?k2 ?k3 ?k4 ?k5 ?kK ?kd ?ku trivial ?_; (((case k1 => k_asm); (case k2 => k_asm); (case k3 => k_asm); (case k4 => k_asm); (case k5 => k_asm); (case kK => first | exact rfl | assumption); (case kd => ktr_room); (case ku => ktr_units)))); intro v99z h99z tk99z F99z N99z e99z; (obtain ⟨t99z, e99z⟩ := e99z); (cases e99z); (try dsimp only); (try k_fold)) | with_reducible (k_here; (with_reducible show wpAny _ _ (call (Value.builtin "str.join") [Value.str _ _, Value.ref _]) _ _ _); (with_reducible rename StrsAre _ _ => hSt99z); k_dflt (refine' join_listW (ys := ?ys) ?k1 ?k2 ?k3 ?k4 ?_; (case k1 => exact News.isList (by k_asm) (by k_mem)); (case k2 => simpa using hSt99z); (case k3 => decide); (case k4 => first | omega | (simp only [] at *; omega))); intro t99z k99z) | walk1 | (dsimp only; walk1) | (leave1; walk_say "STEP leave1"; try dsimp only))
  unfold Hold
  (refine' For_turns (m := ?mm) ?F ?_ ?hs ?hE; (case F => k_asm); (case hE => passes_own); (case hs => intro _; rfl); k_whole)
  repeat' (first | (k_unfold; (try dsimp only)) | (k_end; wrow_close) | with_reducible (k_here; (with_reducible show wpAny _ _ (exec (Stmt.For _ _ _ _ _) _) _ _ _); (rename TurnOK _ _ _ _ _ _ _ _ _ => hT99z); (rename Fr _ _ _ _ => lF9z); with_unfolding_all (refine' inner_forT hT99z ?h ?X lF9z ?N ?e1 ?e2 ?e3 ?e4 ?hu ?ho ?ha ?hev ?_; (case h => exact rfl); (case X => k_asm); (case N => k_asm); (case e1 => exact rfl); (case e2 => exact rfl); (case e3 => exact rfl); (case e4 => exact rfl); (case hu => exact Nat.le_of_ble_eq_true rfl); (case ho => exact own_two (by assumption)); (case ha => first | exact tab0 _ | exact tab1 _ | exact tab2 _ | exact tab3 _ | exact tab4 _ | exact tab5 _ | exact tab6 _ | exact tab7 _ | exact tab8 _ | exact tab9 _); (case hev => exact fun Q' hq => ld lF9z rfl hq)); intro h9z tk9z u9z n9z t9z F9z N9z; (try k_fold)) | with_reducible (k_here; (with_reducible show wpAny _ _ (call (Value.ref 294) [Value.int _ _]) _ _ _); k_dflt (refine' Pure.use (ifmt_c _ _ _) ?k1 ?k2 ?k3 ?k4 ?k5 ?kK ?kd ?ku trivial ?_; (((case k1 => k_asm); (case k2 => k_asm); (case k3 => k_asm); (case k4 => k_asm); (case k5 => k_asm); (case kK => first | exact rfl | assumption); (case kd => ktr_room); (case ku => ktr_units)))); intro v99z h99z tk99z F99z N99z e99z; (obtain ⟨t99z, e99z⟩ := e99z); (cases e99z); (try dsimp only); (try k_fold)) | with_reducible (k_here; (with_reducible show wpAny _ _ (call (Value.builtin "str.join") [Value.str _ _, Value.ref _]) _ _ _); (with_reducible rename StrsAre _ _ => hSt99z); k_dflt (refine' join_listW (ys := ?ys) ?k1 ?k2 ?k3 ?k4 ?_; (case k1 => exact News.isList (by k_asm) (by k_mem)); (case k2 => simpa using hSt99z); (case k3 => decide); (case k4 => first | omega | (simp only [] at *; omega))); intro t99z k99z) | walk1 | (dsimp only; walk1) | (leave1; walk_say "STEP leave1"; try dsimp only))
  unfold Hold
  (with_unfolding_all refine' enumK ?h ?F ?N ?X ?k ?c ?d ?x ?_; (case h => with_unfolding_all rfl); (case F => k_asm); (case N => k_asm); (case X => k_asm); (case k => k_is); (case c => exact rfl); (case d => exact rfl); (case x => exact rfl); k_whole)
  intro i' l1; (try k_lt l1)
  repeat' (first | (k_unfold; (try dsimp only)) | (k_end; wrow_close) | with_reducible (k_here; (with_reducible show wpAny _ _ (exec (Stmt.For _ _ _ _ _) _) _ _ _); (rename TurnOK _ _ _ _ _ _ _ _ _ => hT99z); (rename Fr _ _ _ _ => lF9z); with_unfolding_all (refine' inner_forT hT99z ?h ?X lF9z ?N ?e1 ?e2 ?e3 ?e4 ?hu ?ho ?ha ?hev ?_; (case h => exact rfl); (case X => k_asm); (case N => k_asm); (case e1 => exact rfl); (case e2 => exact rfl); (case e3 => exact rfl); (case e4 => exact rfl); (case hu => exact Nat.le_of_ble_eq_true rfl); (case ho => exact own_two (by assumption)); (case ha => first | exact tab0 _ | exact tab1 _ | exact tab2 _ | exact tab3 _ | exact tab4 _ | exact tab5 _ | exact tab6 _ | exact tab7 _ | exact tab8 _ | exact tab9 _); (case hev => exact fun Q' hq => ld lF9z rfl hq)); intro h9z tk9z u9z n9z t9z F9z N9z; (try k_fold)) | with_reducible (k_here; (with_reducible show wpAny _ _ (call (Value.ref 294) [Value.int _ _]) _ _ _); k_dflt (refine' Pure.use (ifmt_c _ _ _) ?k1 ?k2 ?k3 ?k4 ?k5 ?kK ?kd ?ku trivial ?_; (((case k1 => k_asm); (case k2 => k_asm); (case k3 => k_asm); (case k4 => k_asm); (case k5 => k_asm); (case kK => first | exact rfl | assumption); (case kd => ktr_room); (case ku => ktr_units)))); intro v99z h99z tk99z F99z N99z e99z; (obtain ⟨t99z, e99z⟩ := e99z); (cases e99z); (try dsimp only); (try k_fold)) | with_reducible (k_here; (with_reducible show wpAny _ _ (call (Value.builtin "str.join") [Value.str _ _, Value.ref _]) _ _ _); (with_reducible rename StrsAre _ _ => hSt99z); k_dflt (refine' join_listW (ys := ?ys) ?k1 ?k2 ?k3 ?k4 ?_; (case k1 => exact News.isList (by k_asm) (by k_mem)); (case k2 => simpa using hSt99z); (case k3 => decide); (case k4 => first | omega | (simp only [] at *; omega))); intro t99z k99z) | walk1 | (dsimp only; walk1) | (leave1; walk_say "STEP leave1"; try dsimp only))
  unfold Hold
  refine' inner_cut (K := Mine.hd.heap_39 w.params) ?X ?F ?_ ?_
  case X => k_asm
  case F => k_asm
  · intro md i tm ti ax P us n u rest s hus hoff F9 N9
    refine ⟨fun a bit char t1 t2 hk => ?_, ?_⟩
    · refine' unpackK F9 N9 ?X hk rfl rfl ?h ?k1 ?k2 ?_
      case X => k_asm
      case h => exact rfl
      case k1 => exact rfl
      case k2 => exact rfl
      intro h' F' N'
      repeat' (first | (k_unfold; (try dsimp only)) | (k_end; wrow_close) | with_reducible (k_here; (with_reducible show wpAny _ _ (exec (Stmt.For _ _ _ _ _) _) _ _ _); (rename TurnOK _ _ _ _ _ _ _ _ _ => hT99z); (rename Fr _ _ _ _ => lF9z); with_unfolding_all (refine' inner_forT hT99z ?h ?X lF9z ?N ?e1 ?e2 ?e3 ?e4 ?hu ?ho ?ha ?hev ?_; (case h => exact rfl); (case X => k_asm); (case N => k_asm); (case e1 => exact rfl); (case e2 => exact rfl); (case e3 => exact rfl); (case e4 => exact rfl); (case hu => exact Nat.le_of_ble_eq_true rfl); (case ho => exact own_two (by assumption)); (case ha => first | exact tab0 _ | exact tab1 _ | exact tab2 _ | exact tab3 _ | exact tab4 _ | exact tab5 _ | exact tab6 _ | exact tab7 _ | exact tab8 _ | exact tab9 _); (case hev => exact fun Q' hq => ld lF9z rfl hq)); intro h9z tk9z u9z n9z t9z F9z N9z; (try k_fold)) | with_reducible (k_here; (with_reducible show wpAny _ _ (call (Value.ref 294) [Value.int _ _]) _ _ _); k_dflt (refine' Pure.use (ifmt_c _ _ _) ?k1 ?k2 ?k3 ?k4 ?k5 ?kK ?kd ?ku trivial ?_; (((case k1 => k_asm); (case k2 => k_asm); (case k3 => k_asm); (case k4 => k_asm); (case k5 => k_asm); (case kK => first | exact rfl | assumption); (case kd => ktr_room); (case ku => ktr_units)))); intro v99z h99z tk99z F99z N99z e99z; (obtain ⟨t99z, e99z⟩ := e99z); (cases e99z); (try dsimp only); (try k_fold)) | with_reducible (k_here; (with_reducible show wpAny _ _ (call (Value.builtin "str.join") [Value.str _ _, Value.ref _]) _ _ _); (with_reducible rename StrsAre _ _ => hSt99z); k_dflt (refine' join_listW (ys := ?ys) ?k1 ?k2 ?k3 ?k4 ?_; (case k1 => exact News.isList (by k_asm) (by k_mem)); (case k2 => simpa using hSt99z); (case k3 => decide); (case k4 => first | omega | (simp only [] at *; omega))); intro t99z k99z) | walk1 | (dsimp only; walk1) | (leave1; walk_say "STEP leave1"; try dsimp only))
      all_goals first | (refine TurnPost.brk (by assumption) (by assumption) ?_ off2_two; unfold hit; simp_all; done) | (refine TurnPost.next (by assumption) (by assumption) ?_ off2_two; unfold hit; simp_all; done)
    · repeat' (first | (k_unfold; (try dsimp only)) | (k_end; wrow_close) | with_reducible (k_here; (with_reducible show wpAny _ _ (exec (Stmt.For _ _ _ _ _) _) _ _ _); (rename TurnOK _ _ _ _ _ _ _ _ _ => hT99z); (rename Fr _ _ _ _ => lF9z); with_unfolding_all (refine' inner_forT hT99z ?h ?X lF9z ?N ?e1 ?e2 ?e3 ?e4 ?hu ?ho ?ha ?hev ?_; (case h => exact rfl); (case X => k_asm); (case N => k_asm); (case e1 => exact rfl); (case e2 => exact rfl); (case e3 => exact rfl); (case e4 => exact rfl); (case hu => exact Nat.le_of_ble_eq_true rfl); (case ho => exact own_two (by assumption)); (case ha => first | exact tab0 _ | exact tab1 _ | exact tab2 _ | exact tab3 _ | exact tab4 _ | exact tab5 _ | exact tab6 _ | exact tab7 _ | exact tab8 _ | exact tab9 _); (case hev => exact fun Q' hq => ld lF9z rfl hq)); intro h9z tk9z u9z n9z t9z F9z N9z; (try k_fold)) | with_reducible (k_here; (with_reducible show wpAny _ _ (call (Value.ref 294) [Value.int _ _]) _ _ _); k_dflt (refine' Pure.use (ifmt_c _ _ _) ?k1 ?k2 ?k3 ?k4 ?k5 ?kK ?kd ?ku trivial ?_; (((case k1 => k_asm); (case k2 => k_asm); (case k3 => k_asm); (case k4 => k_asm); (case k5 => k_asm); (case kK => first | exact rfl | assumption); (case kd => ktr_room); (case ku => ktr_units)))); intro v99z h99z tk99z F99z N99z e99z; (obtain ⟨t99z, e99z⟩ := e99z); (cases e99z); (try dsimp only); (try k_fold)) | with_reducible (k_here; (with_reducible show wpAny _ _ (call (Value.builtin "str.join") [Value.str _ _, Value.ref _]) _ _ _); (with_reducible rename StrsAre _ _ => hSt99z); k_dflt (refine' join_listW (ys := ?ys) ?k1 ?k2 ?k3 ?k4 ?_; (case k1 => exact News.isList (by k_asm) (by k_mem)); (case k2 => simpa using hSt99z); (case k3 => decide); (case k4 => first | omega | (simp only [] at *; omega))); intro t99z k99z) | walk1 | (dsimp only; walk1) | (leave1; walk_say "STEP leave1"; try dsimp only))
      all_goals (refine ElsePost.mk (by assumption) (by assumption) ?_ off2_refl; simp_all)
  · intro hT
    repeat' (first | (k_unfold; (try dsimp only)) | (k_end; wrow_close) | with_reducible (k_here; (with_reducible show wpAny _ _ (exec (Stmt.For _ _ _ _ _) _) _ _ _); (rename TurnOK _ _ _ _ _ _ _ _ _ => hT99z); (rename Fr _ _ _ _ => lF9z); with_unfolding_all (refine' inner_forT hT99z ?h ?X lF9z ?N ?e1 ?e2 ?e3 ?e4 ?hu ?ho ?ha ?hev ?_; (case h => exact rfl); (case X => k_asm); (case N => k_asm); (case e1 => exact rfl); (case e2 => exact rfl); (case e3 => exact rfl); (case e4 => exact rfl); (case hu => exact Nat.le_of_ble_eq_true rfl); (case ho => exact own_two (by assumption)); (case ha => first | exact tab0 _ | exact tab1 _ | exact tab2 _ | exact tab3 _ | exact tab4 _ | exact tab5 _ | exact tab6 _ | exact tab7 _ | exact tab8 _ | exact tab9 _); (case hev => exact fun Q' hq => ld lF9z rfl hq)); intro h9z tk9z u9z n9z t9z F9z N9z; (try k_fold)) | with_reducible (k_here; (with_reducible show wpAny _ _ (call (Value.ref 294) [Value.int _ _]) _ _ _); k_dflt (refine' Pure.use (ifmt_c _ _ _) ?k1 ?k2 ?k3 ?k4 ?k5 ?kK ?kd ?ku trivial ?_; (((case k1 => k_asm); (case k2 => k_asm); (case k3 => k_asm); (case k4 => k_asm); (case k5 => k_asm); (case kK => first | exact rfl | assumption); (case kd => ktr_room); (case ku => ktr_units)))); intro v99z h99z tk99z F99z N99z e99z; (obtain ⟨t99z, e99z⟩ := e99z); (cases e99z); (try dsimp only); (try k_fold)) | with_reducible (k_here; (with_reducible show wpAny _ _ (call (Value.builtin "str.join") [Value.str _ _, Value.ref _]) _ _ _); (with_reducible rename StrsAre _ _ => hSt99z); k_dflt (refine' join_listW (ys := ?ys) ?k1 ?k2 ?k3 ?k4 ?_; (case k1 => exact News.isList (by k_asm) (by k_mem)); (case k2 => simpa using hSt99z); (case k3 => decide); (case k4 => first | omega | (simp only [] at *; omega))); intro t99z k99z) | walk1 | (dsimp only; walk1) | (leave1; walk_say "STEP leave1"; try dsimp only))
    have hs := modeL_sum x
    refine join_listW (ys := modeL x) (News.isList (by k_asm) (by k_mem)) (.cons _ _ (.cons _ _ (.cons _ _ (.cons _ _ (.cons _ _ (.cons _ _ (.cons _ _ (.cons _ _ (.cons _ _ (.cons _ _ .nil)))))))))) (by decide) (by omega) ?_
    intro t9 k9
    repeat' (first | (k_unfold; (try dsimp only)) | (k_end; wrow_close) | with_reducible (k_here; (with_reducible show wpAny _ _ (exec (Stmt.For _ _ _ _ _) _) _ _ _); (rename TurnOK _ _ _ _ _ _ _ _ _ => hT99z); (rename Fr _ _ _ _ => lF9z); with_unfolding_all (refine' inner_forT hT99z ?h ?X lF9z ?N ?e1 ?e2 ?e3 ?e4 ?hu ?ho ?ha ?hev ?_; (case h => exact rfl); (case X => k_asm); (case N => k_asm); (case e1 => exact rfl); (case e2 => exact rfl); (case e3 => exact rfl); (case e4 => exact rfl); (case hu => exact Nat.le_of_ble_eq_true rfl); (case ho => exact own_two (by assumption)); (case ha => first | exact tab0 _ | exact tab1 _ | exact tab2 _ | exact tab3 _ | exact tab4 _ | exact tab5 _ | exact tab6 _ | exact tab7 _ | exact tab8 _ | exact tab9 _); (case hev => exact fun Q' hq => ld lF9z rfl hq)); intro h9z tk9z u9z n9z t9z F9z N9z; (try k_fold)) | with_reducible (k_here; (with_reducible show wpAny _ _ (call (Value.ref 294) [Value.int _ _]) _ _ _); k_dflt (refine' Pure.use (ifmt_c _ _ _) ?k1 ?k2 ?k3 ?k4 ?k5 ?kK ?kd ?ku trivial ?_; (((case k1 => k_asm); (case k2 => k_asm); (case k3 => k_asm); (case k4 => k_asm); (case k5 => k_asm); (case kK => first | exact rfl | assumption); (case kd => ktr_room); (case ku => ktr_units)))); intro v99z h99z tk99z F99z N99z e99z; (obtain ⟨t99z, e99z⟩ := e99z); (cases e99z); (try dsimp only); (try k_fold)) | with_reducible (k_here; (with_reducible show wpAny _ _ (call (Value.builtin "str.join") [Value.str _ _, Value.ref _]) _ _ _); (with_reducible rename StrsAre _ _ => hSt99z); k_dflt (refine' join_listW (ys := ?ys) ?k1 ?k2 ?k3 ?k4 ?_; (case k1 => exact News.isList (by k_asm) (by k_mem)); (case k2 => simpa using hSt99z); (case k3 => decide); (case k4 => first | omega | (simp only [] at *; omega))); intro t99z k99z) | walk1 | (dsimp only; walk1) | (leave1; walk_say "STEP leave1"; try dsimp only))
    (((with_reducible show Kept _ _ _ _); intro hSt9z; (rename ∀ (v : Value) (h' : Heap) (tk' : Nat), _ => hRet9z); refine hRet9z _ _ _ (by assumption) hSt9z ?_; clear hSt9z hRet9z))
    exact ⟨_, rfl⟩
end

theorem at_I1 : True := by w_top off; trivial
noncomputable def kindD : List (PyData × PyData) := [(.int 1, .str (Str.ofString "p")), (.int 2, .str (Str.ofString "c")), (.int 4, .str (Str.ofString "d")), (.int 6, .str (Str.ofString "b")), (.int 8, .str (Str.ofString "-")), (.int 10, .str (Str.ofString "l")), (.int 12, .str (Str.ofString "s"))]
noncomputable def strOf : PyData → Str
  | .str c => c
  | _ => Str.ofString ""
noncomputable def kindS (k : Int) : Str := strOf ((PySem.Spec.lookup (.int k) kindD).getD (.str (Str.ofString "?")))
theorem lookup_mem {k d : PyData} : ∀ {D : List (PyData × PyData)}, PySem.Spec.lookup k D = some d → ∃ k', (k', d) ∈ D
  | [], h => by cases h
  | (a, b) :: r, h => by
    unfold PySem.Spec.lookup at h
    split at h
    · cases h; exact ⟨a, .head _⟩
    · obtain ⟨k', hk'⟩ := lookup_mem h; exact ⟨k', .tail _ hk'⟩
theorem kindS_str (k : Int) : (PySem.Spec.lookup (.int k) kindD).getD (.str (Str.ofString "?")) = .str (kindS k) ∧ (kindS k).length = 1 := by
  unfold kindS
  cases e : PySem.Spec.lookup (.int k) kindD with
  | none => exact ⟨rfl, rfl⟩
  | some d =>
    obtain ⟨k', hk'⟩ := lookup_mem e
    have : ∀ p ∈ kindD, p.2 = .str (strOf p.2) ∧ (strOf p.2).length = 1 := by
      intro p hp
      simp only [kindD, List.mem_cons, List.not_mem_nil, or_false] at hp
      rcases hp with rfl | rfl | rfl | rfl | rfl | rfl | rfl <;> exact ⟨rfl, rfl⟩
    exact this _ hk'
theorem kind_get {prog : Program} {w : World} {A : Around} {E : Value → Shared → Prop} {s : Shared} {d : Addr} {k : Int} {t u : Tok} {Q : Value → Shared → Prop} (T : IntTab prog w s.heap d kindD) (h : ∀ t', (kindS k).length = 1 → Q (.str (kindS k) t') { s with toks := s.toks + 1 }) :
    wpAny (model prog w) A (call (.builtin "dict.get") [.ref d, .int k t, .str (Str.ofString "?") u]) Q E s := by
  refine call_get2_intTab T (PyProof.V.Flat.str _ u) fun v hv => ?_
  rw [(kindS_str k).1] at hv
  obtain ⟨t', rfl⟩ := hv.str_inv
  exact h t' (kindS_str k).2
theorem idx2 (z : Int) : 0 ≤ z.fmod 2 ∧ z.fmod 2 < 2 := ⟨Int.fmod_nonneg_of_pos _ (by decide), Int.fmod_lt_of_pos _ (by decide)⟩
theorem idx4 (z : Int) : 0 ≤ (z.fmod 8).fdiv 4 ∧ (z.fmod 8).fdiv 4 < 2 := by
  have h1 : 0 ≤ z.fmod 8 := Int.fmod_nonneg_of_pos _ (by decide)
  have h2 : z.fmod 8 < 8 := Int.fmod_lt_of_pos _ (by decide)
  rw [Int.fdiv_eq_ediv_of_nonneg _ (by decide)]
  omega
section
variable {prog : Program} {w : World} {A : Around} {E : Value → Shared → Prop} {s : Shared} {h₀ : Heap} {L D : Addr} {news : List (Addr × Obj)} {value slice : Expr} {a b : Str} {t u ti : Tok} {i : Int} {n : Nat} {Q : Value → Shared → Prop}
theorem two_get (h : 0 ≤ i ∧ i < 2) : ∃ t', ([Value.str a t, .str b u] : List Value)[i.toNat]? = some (.str (if i = 0 then a else b) t') := by
  have : i = 0 ∨ i = 1 := by omega
  rcases this with rfl | rfl
  · exact ⟨t, rfl⟩
  · exact ⟨u, rfl⟩
theorem item2L (N : News h₀ L s.heap news) (hm : (D, listOf #[Value.str a t, .str b u] n) ∈ news) (hi : 0 ≤ i ∧ i < 2) (ha : a.length = 1) (hb : b.length = 1) (h : ∀ c t', c.length = 1 → c = (if i = 0 then a else b) → Q (.str c t') s)
    (hs : subscripted slice false (.ref D) (.int i ti) = operate [.ref D, .int i ti] (getItem (.ref D) (.int i ti)) := by with_unfolding_all rfl) :
    wpAny (model prog w) A (subscriptTail value slice (.ref D) (.int i ti)) Q E s := by
  have hl : s.heap.IsList D #[Value.str a t, .str b u] := ⟨_, (N _ hm).1, rfl, n, rfl⟩
  obtain ⟨t', e⟩ := two_get (a := a) (b := b) (t := t) (u := u) hi
  exact tail_any hl.typeIs slot_list_getitem.lookup (wpAny_getItem_list hl hi.1 (by omega) (by simpa using e) (h _ t' (by split <;> assumption) rfl)) hs
theorem item2T (N : News h₀ L s.heap news) (hm : (D, { cls := .type "tuple", data := .seq #[Value.str a t, .str b u] }) ∈ news) (hi : 0 ≤ i ∧ i < 2) (ha : a.length = 1) (hb : b.length = 1) (h : ∀ c t', c.length = 1 → c = (if i = 0 then a else b) → Q (.str c t') s)
    (hs : subscripted slice false (.ref D) (.int i ti) = operate [.ref D, .int i ti] (getItem (.ref D) (.int i ti)) := by with_unfolding_all rfl) :
    wpAny (model prog w) A (subscriptTail value slice (.ref D) (.int i ti)) Q E s := by
  obtain ⟨t', e⟩ := two_get (a := a) (b := b) (t := t) (u := u) hi
  refine item_tupleT (l := [Value.str a t, .str b u]) (j := i.toNat) ⟨_, (N _ hm).1, rfl, 0, rfl⟩ (by omega) (by omega) ?_ e (h _ t' (by split <;> assumption) rfl) hs
  have : i = 0 ∨ i = 1 := by omega
  rcases this with rfl | rfl <;> rfl
end
noncomputable abbrev smap (x sh sp : Int) (tx t1 t2 t3 t4 t5 : Tok) (sm gr y : Str) (u : Str → Option Value) : Str → Option Value := fun z => if z = Str.ofString "octal" then u z else if z = Str.ofString "mark" then u z else if z = Str.ofString "great" then some (.str gr t4) else if z = Str.ofString "small" then some (.str sm t3) else if z = Str.ofString "special" then some (.int sp t2) else if z = Str.ofString "shift" then some (.int sh t1) else if z = Str.ofString "signs" then some (.str y t5) else if z = Str.ofString "mode" then some (.int x tx) else u z
noncomputable def OffS (m' m : Str → Option Value) : Prop := ∀ z, z ≠ Str.ofString "octal" → z ≠ Str.ofString "mark" → z ≠ Str.ofString "signs" → m' z = m z
noncomputable def piece (x sh sp : Int) (sm gr : Str) : Str :=
  let o := (x.fdiv sh).fmod 8
  (if o.fdiv 4 = 0 then Str.ofString "-" else Str.ofString "r") ++ (if (o.fdiv 2).fmod 2 = 0 then Str.ofString "-" else Str.ofString "w") ++ (if (x.fdiv sp).fmod 2 = 1 then (if o.fmod 2 = 0 then gr else sm) else if o.fmod 2 = 0 then Str.ofString "-" else Str.ofString "x")
noncomputable def BodyPost (h₀ : Heap) (L : Addr) (x sh sp : Int) (sm gr y : Str) (rest : List (Addr × Obj)) (m : Str → Option Value) (s : Shared) (f : Flow) (s₃ : Shared) : Prop :=
  f = .next ∧ ∃ h' tk' m' t, s₃ = { s with heap := h', toks := tk' } ∧ m' (Str.ofString "signs") = some (.str (y ++ piece x sh sp sm gr) t) ∧ OffS m' m ∧ Fr h₀ L h' m' ∧ News h₀ L h' rest
noncomputable def BodyOK (prog : Program) (w : World) (A : Around) (h₀ : Heap) (env : Env) (body : List Stmt) : Prop :=
  ∀ (x sh sp : Int) (tx t1 t2 t3 t4 t5 : Tok) (sm gr y : Str) (u : Str → Option Value) (rest : List (Addr × Obj)) (s : Shared), 0 ≤ x → x ≤ 65535 → 0 < sh → sh ≤ 64 → 0 < sp → sp ≤ 2048 → sm.length = 1 → gr.length = 1 → y.length ≤ 100 →
    Fr h₀ env.locals s.heap (smap x sh sp tx t1 t2 t3 t4 t5 sm gr y u) → News h₀ env.locals s.heap rest →
    wpAny (model prog w) A (execs body env) (BodyPost h₀ env.locals x sh sp sm gr y rest (smap x sh sp tx t1 t2 t3 t4 t5 sm gr y u) s) (fun _ _ => False) s
theorem piece_len {x sh sp : Int} {sm gr : Str} (h1 : sm.length = 1) (h2 : gr.length = 1) : (piece x sh sp sm gr).length = 3 := by
  unfold piece
  simp only [Str.length_append]
  have e1 : ∀ (p : Prop) [Decidable p] (a b : Str), a.length = 1 → b.length = 1 → (if p then a else b).length = 1 := fun p _ a b ha hb => by split <;> assumption
  rw [e1 _ _ _ rfl rfl, e1 _ _ _ rfl rfl, e1 _ _ _ (e1 _ _ _ h2 h1) (e1 _ _ _ rfl rfl)]
theorem BodyPost.mk {h₀ h' : Heap} {L : Addr} {x sh sp : Int} {sm gr y z : Str} {rest news' : List (Addr × Obj)} {m m' : Str → Option Value} {s : Shared} {tk' : Nat} {t : Tok} (F : Fr h₀ L h' m') (N : News h₀ L h' news') (hsub : ∀ p ∈ rest, p ∈ news') (e1 : m' (Str.ofString "signs") = some (.str z t)) (ho : OffS m' m) (e2 : z = y ++ piece x sh sp sm gr) :
    BodyPost h₀ L x sh sp sm gr y rest m s .next { s with heap := h', toks := tk' } := ⟨rfl, h', tk', m', t, rfl, by rw [e1, e2], ho, F, fun p hp => N p (hsub p hp)⟩
noncomputable abbrev qmap (x : Int) (tx : Tok) (y : Str) (t : Tok) (u : Str → Option Value) : Str → Option Value := fun z => if z = Str.ofString "mode" then some (.int x tx) else if z = Str.ofString "signs" then some (.str y t) else u z
theorem body_for {prog : Program} {w : World} {A : Around} {h₀ : Heap} {env : Env} {body : List Stmt} {E : Value → Shared → Prop} {s : Shared} {Q : Flow → Shared → Prop} {m : Str → Option Value} (T : BodyOK prog w A h₀ env body) {x sh sp : Int} {tx t1 t2 t3 t4 t5 : Tok} {sm gr y : Str} {rest : List (Addr × Obj)} (F : Fr h₀ env.locals s.heap m) (N : News h₀ env.locals s.heap rest)
    (e1 : m (Str.ofString "mode") = some (.int x tx)) (e2 : m (Str.ofString "signs") = some (.str y t5)) (e3 : m (Str.ofString "shift") = some (.int sh t1)) (e4 : m (Str.ofString "special") = some (.int sp t2)) (e5 : m (Str.ofString "small") = some (.str sm t3)) (e6 : m (Str.ofString "great") = some (.str gr t4))
    (hx0 : 0 ≤ x) (hx1 : x ≤ 65535) (hf : 0 < sh ∧ sh ≤ 64 ∧ 0 < sp ∧ sp ≤ 2048 ∧ sm.length = 1 ∧ gr.length = 1) (hy : y.length ≤ 100)
    (h : ∀ h' tk' u t y', y' = y ++ piece x sh sp sm gr → y'.length = y.length + 3 → Fr h₀ env.locals h' (qmap x tx y' t u) → News h₀ env.locals h' rest → Q .next { s with heap := h', toks := tk' }) :
    wpAny (model prog w) A (execs body env) Q E s := by
  obtain ⟨f1, f2, f3, f4, f5, f6⟩ := hf
  have em : smap x sh sp tx t1 t2 t3 t4 t5 sm gr y m = m := by
    funext z
    show (if _ then _ else _) = _
    by_cases h1 : z = Str.ofString "octal"
    · rw [if_pos h1]
    rw [if_neg h1]
    by_cases h1 : z = Str.ofString "mark"
    · rw [if_pos h1]
    rw [if_neg h1]
    by_cases h1 : z = Str.ofString "great"
    · rw [if_pos h1, h1, e6]
    rw [if_neg h1]
    by_cases h1 : z = Str.ofString "small"
    · rw [if_pos h1, h1, e5]
    rw [if_neg h1]
    by_cases h1 : z = Str.ofString "special"
    · rw [if_pos h1, h1, e4]
    rw [if_neg h1]
    by_cases h1 : z = Str.ofString "shift"
    · rw [if_pos h1, h1, e3]
    rw [if_neg h1]
    by_cases h1 : z = Str.ofString "signs"
    · rw [if_pos h1, h1, e2]
    rw [if_neg h1]
    by_cases h1 : z = Str.ofString "mode"
    · rw [if_pos h1, h1, e1]
    rw [if_neg h1]
  refine wpAny_noRaise (wpAny_mono (T x sh sp tx t1 t2 t3 t4 t5 sm gr y m rest s hx0 hx1 f1 f2 f3 f4 f5 f6 hy (by rw [em]; exact F) N) (fun f s₃ hp => ?_) fun _ _ x => x)
  obtain ⟨rfl, h', tk', m', t, rfl, hs, ho, F', N'⟩ := hp
  rw [em] at ho
  refine h h' tk' m' t _ rfl (by rw [Str.length_append, piece_len f5 f6]) ?_ N'
  have em' : qmap x tx (y ++ piece x sh sp sm gr) t m' = m' := by
    funext z
    show (if _ then _ else _) = _
    by_cases h1 : z = Str.ofString "mode"
    · rw [if_pos h1, h1, ho _ (by decide) (by decide) (by decide), e1]
    rw [if_neg h1]
    by_cases h1 : z = Str.ofString "signs"
    · rw [if_pos h1, h1, hs]
    rw [if_neg h1]
  rw [em']; exact F'
noncomputable def signsF (x : Int) : Str := kindS (x.fdiv 4096) ++ piece x 64 2048 (Str.ofString "s") (Str.ofString "S") ++ piece x 8 1024 (Str.ofString "s") (Str.ofString "S") ++ piece x 1 512 (Str.ofString "t") (Str.ofString "T")
theorem body_cut {prog : Program} {w : World} {A : Around} {h₀ : Heap} {env : Env} {body : List Stmt} {E : Value → Shared → Prop} {s : Shared} {Q : Flow → Shared → Prop} {m : Str → Option Value} (_F : Fr h₀ env.locals s.heap m) (T : BodyOK prog w A h₀ env body)
    (h : BodyOK prog w A h₀ env body → wpAny (model prog w) A (execs body env) Q E s) : wpAny (model prog w) A (execs body env) Q E s := h T
section
local macro_rules | `(tactic| walk_at "exec For Tuple List cons nil") => `(tactic| (k_here; refine Hold.out ?_))
local macro_rules | `(tactic| walk_at "pyIter ref") => `(tactic| (k_here; refine Hold.out ?_))
local macro_rules | `(tactic| walk_at "execs nil") => `(tactic| (k_here; (with_reducible show wpAny _ _ (execs [] _) (BodyPost _ _ _ _ _ _ _ _ _ _ _) _ _); refine wpAny_execs_nil (Hold.out ?_)))
theorem signs_c (w : World) (x : Int) (t : Tok) (hx0 : 0 ≤ x) (hx : x ≤ 65535) : Pure 1 w 374 [.int x t] (fun _ => True) (fun _ _ v => ∃ t, v = .str (signsF x) t) := by
  ((intro mean9z mg9z mb9z dp9z un9z gd9z cn9z cs9z a9z ccd9z cl9z outer9z A₀9z base9z h₀9z L9z m9z s9z Q9z E9z B9z F9z X9z T9z hk9z hdp9z hun9z hpre9z hret9z; refine wpAny_call ?_; k_dflt (((refine' enter0 ?k1 ?k2 ?k3 ?k5 ?kA ?kF ?kK ?k6 ?k7 ?k8 ?k9 ?kB ?_ ?c2 ?c3 ?c4 ?c5; (((case kA => exact rfl); (case kF => exact rfl); (case kK => first | exact rfl | assumption); (case k1 => k_asm); (case k2 => k_asm); (case k3 => k_asm); (try (case k4 => k_asm)); (case k5 => k_asm); (case k6 => k_is); (case k7 => k_is); (case k8 => ktr_room); (try (case k9 => first | exact BindsTo.of_eq rfl | (refine' kp_binds ?kx ?ke; (case kx => k_in); (case ke => exact fun _ => rfl)))))); (((try (case c5 => decide)); (try (case kB => exact locs rfl)); (case c2 => exact rfl); (case c3 => exact rfl); (case c4 => exact rfl); k_whole)); intro g9z L9z h9z FG9z F9z N9z B9z X9z T9z St9z; (try dsimp only); (try k_lift B9z); (try k_fold))))))
  repeat' (first | (k_unfold; (try dsimp only)) | (k_end; wrow_close) | with_reducible (k_here; (with_reducible show wpAny _ _ (subscriptTail _ _ (Value.ref _) (Value.int _ _)) _ _ _); k_dflt (first | (refine' item2L ?N ?m ?i ?la ?lb ?_ ?z; (case N => k_asm); (case m => k_mem); (case la => first | assumption | exact rfl); (case lb => first | assumption | exact rfl); (case i => first | exact idx4 _ | exact idx2 _); (case z => with_unfolding_all rfl); intro c99z t99z hc99z e99z) | (refine' item2T ?N ?m ?i ?la ?lb ?_ ?z; (case N => k_asm); (case m => k_mem); (case la => first | assumption | exact rfl); (case lb => first | assumption | exact rfl); (case i => first | exact idx4 _ | exact idx2 _); (case z => with_unfolding_all rfl); intro c99z t99z hc99z e99z))) | with_reducible (k_here; (with_reducible show wpAny _ _ (execs (Stmt.Assign [Expr.Name (Str.ofString "octal") _] _ _ :: _) _) _ _ _); (with_reducible show wpAny _ _ _ (UnrPostW _ _ _ _ _ _) _ _); (rename BodyOK _ _ _ _ _ _ => hT99z); k_dflt (refine' body_for hT99z ?F ?N ?e1 ?e2 ?e3 ?e4 ?e5 ?e6 ?h0 ?h1 ?hf ?hy ?_; (case F => k_asm); (case N => k_asm); (case e1 => exact rfl); (case e2 => exact rfl); (case e3 => exact rfl); (case e4 => exact rfl); (case e5 => exact rfl); (case e6 => exact rfl); (case h0 => assumption); (case h1 => assumption); (case hf => decide); (case hy => omega)); intro h9z tk9z u9z t9z y9z ey9z hy9z F9z N9z; (try k_fold)) | with_reducible (k_here; (with_reducible show wpAny _ _ (execs (Stmt.Assign [Expr.Name (Str.ofString "octal") _] _ _ :: _) _) _ _ _); (with_reducible show wpAny _ _ _ (UnrPostW _ _ _ _ _ _) _ _); refine Hold.out ?_) | with_reducible (k_here; (with_reducible show wpAny _ _ (call (Value.builtin "dict.get") [Value.ref _, Value.int _ _, Value.str (Str.ofString "?") _]) _ _ _); k_dflt (refine kind_get (by k_tabat) ?_); intro t99z hl99z) | with_reducible (k_here; (with_reducible show wpAny _ _ (call (Value.builtin "str.join") [Value.str _ _, Value.ref _]) _ _ _); (with_reducible rename StrsAre _ _ => hSt99z); k_dflt (refine' join_listW (ys := ?ys) ?k1 ?k2 ?k3 ?k4 ?_; (case k1 => exact News.isList (by k_asm) (by k_mem)); (case k2 => simpa using hSt99z); (case k3 => decide); (case k4 => first | omega | (simp only [] at *; omega))); intro t99z k99z) | walk1 | (dsimp only; walk1) | (leave1; walk_say "STEP leave1"; try dsimp only))
  unfold Hold
  (refine' For_turns (m := ?mm) ?F ?_ ?hs ?hE; (case F => k_asm); (case hE => passes_own); (case hs => intro _; rfl); k_whole)
  repeat' (first | (k_unfold; (try dsimp only)) | (k_end; wrow_close) | with_reducible (k_here; (with_reducible show wpAny _ _ (subscriptTail _ _ (Value.ref _) (Value.int _ _)) _ _ _); k_dflt (first | (refine' item2L ?N ?m ?i ?la ?lb ?_ ?z; (case N => k_asm); (case m => k_mem); (case la => first | assumption | exact rfl); (case lb => first | assumption | exact rfl); (case i => first | exact idx4 _ | exact idx2 _); (case z => with_unfolding_all rfl); intro c99z t99z hc99z e99z) | (refine' item2T ?N ?m ?i ?la ?lb ?_ ?z; (case N => k_asm); (case m => k_mem); (case la => first | assumption | exact rfl); (case lb => first | assumption | exact rfl); (case i => first | exact idx4 _ | exact idx2 _); (case z => with_unfolding_all rfl); intro c99z t99z hc99z e99z))) | with_reducible (k_here; (with_reducible show wpAny _ _ (execs (Stmt.Assign [Expr.Name (Str.ofString "octal") _] _ _ :: _) _) _ _ _); (with_reducible show wpAny _ _ _ (UnrPostW _ _ _ _ _ _) _ _); (rename BodyOK _ _ _ _ _ _ => hT99z); k_dflt (refine' body_for hT99z ?F ?N ?e1 ?e2 ?e3 ?e4 ?e5 ?e6 ?h0 ?h1 ?hf ?hy ?_; (case F => k_asm); (case N => k_asm); (case e1 => exact rfl); (case e2 => exact rfl); (case e3 => exact rfl); (case e4 => exact rfl); (case e5 => exact rfl); (case e6 => exact rfl); (case h0 => assumption); (case h1 => assumption); (case hf => decide); (case hy => omega)); intro h9z tk9z u9z t9z y9z ey9z hy9z F9z N9z; (try k_fold)) | with_reducible (k_here; (with_reducible show wpAny _ _ (execs (Stmt.Assign [Expr.Name (Str.ofString "octal") _] _ _ :: _) _) _ _ _); (with_reducible show wpAny _ _ _ (UnrPostW _ _ _ _ _ _) _ _); refine Hold.out ?_) | with_reducible (k_here; (with_reducible show wpAny _ _ (call (Value.builtin "dict.get") [Value.ref _, Value.int _ _, Value.str (Str.ofString "?") _]) _ _ _); k_dflt (refine kind_get (by k_tabat) ?_); intro t99z hl99z) | with_reducible (k_here; (with_reducible show wpAny _ _ (call (Value.builtin "str.join") [Value.str _ _, Value.ref _]) _ _ _); (with_reducible rename StrsAre _ _ => hSt99z); k_dflt (refine' join_listW (ys := ?ys) ?k1 ?k2 ?k3 ?k4 ?_; (case k1 => exact News.isList (by k_asm) (by k_mem)); (case k2 => simpa using hSt99z); (case k3 => decide); (case k4 => first | omega | (simp only [] at *; omega))); intro t99z k99z) | walk1 | (dsimp only; walk1) | (leave1; walk_say "STEP leave1"; try dsimp only))
  unfold Hold
  (with_unfolding_all refine' iter_listTurns ?h ?F ?N ?m ?c ?d ?_; (case h => with_unfolding_all rfl); (case F => k_asm); (case N => k_asm); (case m => k_mem); (case c => exact rfl); (case d => exact rfl); k_whole)
  intro i' l1; (try k_lt l1)
  repeat' (first | (k_unfold; (try dsimp only)) | (k_end; wrow_close) | with_reducible (k_here; (with_reducible show wpAny _ _ (subscriptTail _ _ (Value.ref _) (Value.int _ _)) _ _ _); k_dflt (first | (refine' item2L ?N ?m ?i ?la ?lb ?_ ?z; (case N => k_asm); (case m => k_mem); (case la => first | assumption | exact rfl); (case lb => first | assumption | exact rfl); (case i => first | exact idx4 _ | exact idx2 _); (case z => with_unfolding_all rfl); intro c99z t99z hc99z e99z) | (refine' item2T ?N ?m ?i ?la ?lb ?_ ?z; (case N => k_asm); (case m => k_mem); (case la => first | assumption | exact rfl); (case lb => first | assumption | exact rfl); (case i => first | exact idx4 _ | exact idx2 _); (case z => with_unfolding_all rfl); intro c99z t99z hc99z e99z))) | with_reducible (k_here; (with_reducible show wpAny _ _ (execs (Stmt.Assign [Expr.Name (Str.ofString "octal") _] _ _ :: _) _) _ _ _); (with_reducible show wpAny _ _ _ (UnrPostW _ _ _ _ _ _) _ _); (rename BodyOK _ _ _ _ _ _ => hT99z); k_dflt (refine' body_for hT99z ?F ?N ?e1 ?e2 ?e3 ?e4 ?e5 ?e6 ?h0 ?h1 ?hf ?hy ?_; (case F => k_asm); (case N => k_asm); (case e1 => exact rfl); (case e2 => exact rfl); (case e3 => exact rfl); (case e4 => exact rfl); (case e5 => exact rfl); (case e6 => exact rfl); (case h0 => assumption); (case h1 => assumption); (case hf => decide); (case hy => omega)); intro h9z tk9z u9z t9z y9z ey9z hy9z F9z N9z; (try k_fold)) | with_reducible (k_here; (with_reducible show wpAny _ _ (execs (Stmt.Assign [Expr.Name (Str.ofString "octal") _] _ _ :: _) _) _ _ _); (with_reducible show wpAny _ _ _ (UnrPostW _ _ _ _ _ _) _ _); refine Hold.out ?_) | with_reducible (k_here; (with_reducible show wpAny _ _ (call (Value.builtin "dict.get") [Value.ref _, Value.int _ _, Value.str (Str.ofString "?") _]) _ _ _); k_dflt (refine kind_get (by k_tabat) ?_); intro t99z hl99z) | with_reducible (k_here; (with_reducible show wpAny _ _ (call (Value.builtin "str.join") [Value.str _ _, Value.ref _]) _ _ _); (with_reducible rename StrsAre _ _ => hSt99z); k_dflt (refine' join_listW (ys := ?ys) ?k1 ?k2 ?k3 ?k4 ?_; (case k1 => exact News.isList (by k_asm) (by k_mem)); (case k2 => simpa using hSt99z); (case k3 => decide); (case k4 => first | omega | (simp only [] at *; omega))); intro t99z k99z) | walk1 | (dsimp only; walk1) | (leave1; walk_say "STEP leave1"; try dsimp only))
  unfold Hold
  refine' body_cut ?F ?_ ?_
  case F => k_asm
  · intro x sh sp tx t1 t2 t3 t4 t5 sm gr y u rest s hx0 hx1 hs0 hs1 hp0 hp1 hsm hgr hy F9 N9
    have hsh : sh ≠ 0 := by omega
    have hsp : sp ≠ 0 := by omega
    repeat' (first | (k_unfold; (try dsimp only)) | (k_end; wrow_close) | with_reducible (k_here; (with_reducible show wpAny _ _ (subscriptTail _ _ (Value.ref _) (Value.int _ _)) _ _ _); k_dflt (first | (refine' item2L ?N ?m ?i ?la ?lb ?_ ?z; (case N => k_asm); (case m => k_mem); (case la => first | assumption | exact rfl); (case lb => first | assumption | exact rfl); (case i => first | exact idx4 _ | exact idx2 _); (case z => with_unfolding_all rfl); intro c99z t99z hc99z e99z) | (refine' item2T ?N ?m ?i ?la ?lb ?_ ?z; (case N => k_asm); (case m => k_mem); (case la => first | assumption | exact rfl); (case lb => first | assumption | exact rfl); (case i => first | exact idx4 _ | exact idx2 _); (case z => with_unfolding_all rfl); intro c99z t99z hc99z e99z))) | with_reducible (k_here; (with_reducible show wpAny _ _ (execs (Stmt.Assign [Expr.Name (Str.ofString "octal") _] _ _ :: _) _) _ _ _); (with_reducible show wpAny _ _ _ (UnrPostW _ _ _ _ _ _) _ _); (rename BodyOK _ _ _ _ _ _ => hT99z); k_dflt (refine' body_for hT99z ?F ?N ?e1 ?e2 ?e3 ?e4 ?e5 ?e6 ?h0 ?h1 ?hf ?hy ?_; (case F => k_asm); (case N => k_asm); (case e1 => exact rfl); (case e2 => exact rfl); (case e3 => exact rfl); (case e4 => exact rfl); (case e5 => exact rfl); (case e6 => exact rfl); (case h0 => assumption); (case h1 => assumption); (case hf => decide); (case hy => omega)); intro h9z tk9z u9z t9z y9z ey9z hy9z F9z N9z; (try k_fold)) | with_reducible (k_here; (with_reducible show wpAny _ _ (execs (Stmt.Assign [Expr.Name (Str.ofString "octal") _] _ _ :: _) _) _ _ _); (with_reducible show wpAny _ _ _ (UnrPostW _ _ _ _ _ _) _ _); refine Hold.out ?_) | with_reducible (k_here; (with_reducible show wpAny _ _ (call (Value.builtin "dict.get") [Value.ref _, Value.int _ _, Value.str (Str.ofString "?") _]) _ _ _); k_dflt (refine kind_get (by k_tabat) ?_); intro t99z hl99z) | with_reducible (k_here; (with_reducible show wpAny _ _ (call (Value.builtin "str.join") [Value.str _ _, Value.ref _]) _ _ _); (with_reducible rename StrsAre _ _ => hSt99z); k_dflt (refine' join_listW (ys := ?ys) ?k1 ?k2 ?k3 ?k4 ?_; (case k1 => exact News.isList (by k_asm) (by k_mem)); (case k2 => simpa using hSt99z); (case k3 => decide); (case k4 => first | omega | (simp only [] at *; omega))); intro t99z k99z) | walk1 | (dsimp only; walk1) | (leave1; walk_say "STEP leave1"; try dsimp only))
    all_goals (unfold Hold; refine BodyPost.mk (by assumption) (by assumption) (fun p hp => by repeat (first | exact hp | refine List.Mem.tail _ ?_)) rfl (fun z h1 h2 h3 => by simp only [h1, h2, h3, if_false]) ?_)
    all_goals (unfold piece; simp_all [Str.append_assoc])
  · intro hT
    repeat' (first | (k_unfold; (try dsimp only)) | (k_end; wrow_close) | with_reducible (k_here; (with_reducible show wpAny _ _ (subscriptTail _ _ (Value.ref _) (Value.int _ _)) _ _ _); k_dflt (first | (refine' item2L ?N ?m ?i ?la ?lb ?_ ?z; (case N => k_asm); (case m => k_mem); (case la => first | assumption | exact rfl); (case lb => first | assumption | exact rfl); (case i => first | exact idx4 _ | exact idx2 _); (case z => with_unfolding_all rfl); intro c99z t99z hc99z e99z) | (refine' item2T ?N ?m ?i ?la ?lb ?_ ?z; (case N => k_asm); (case m => k_mem); (case la => first | assumption | exact rfl); (case lb => first | assumption | exact rfl); (case i => first | exact idx4 _ | exact idx2 _); (case z => with_unfolding_all rfl); intro c99z t99z hc99z e99z))) | with_reducible (k_here; (with_reducible show wpAny _ _ (execs (Stmt.Assign [Expr.Name (Str.ofString "octal") _] _ _ :: _) _) _ _ _); (with_reducible show wpAny _ _ _ (UnrPostW _ _ _ _ _ _) _ _); (rename BodyOK _ _ _ _ _ _ => hT99z); k_dflt (refine' body_for hT99z ?F ?N ?e1 ?e2 ?e3 ?e4 ?e5 ?e6 ?h0 ?h1 ?hf ?hy ?_; (case F => k_asm); (case N => k_asm); (case e1 => exact rfl); (case e2 => exact rfl); (case e3 => exact rfl); (case e4 => exact rfl); (case e5 => exact rfl); (case e6 => exact rfl); (case h0 => assumption); (case h1 => assumption); (case hf => decide); (case hy => omega)); intro h9z tk9z u9z t9z y9z ey9z hy9z F9z N9z; (try k_fold)) | with_reducible (k_here; (with_reducible show wpAny _ _ (execs (Stmt.Assign [Expr.Name (Str.ofString "octal") _] _ _ :: _) _) _ _ _); (with_reducible show wpAny _ _ _ (UnrPostW _ _ _ _ _ _) _ _); refine Hold.out ?_) | with_reducible (k_here; (with_reducible show wpAny _ _ (call (Value.builtin "dict.get") [Value.ref _, Value.int _ _, Value.str (Str.ofString "?") _]) _ _ _); k_dflt (refine kind_get (by k_tabat) ?_); intro t99z hl99z) | with_reducible (k_here; (with_reducible show wpAny _ _ (call (Value.builtin "str.join") [Value.str _ _, Value.ref _]) _ _ _); (with_reducible rename StrsAre _ _ => hSt99z); k_dflt (refine' join_listW (ys := ?ys) ?k1 ?k2 ?k3 ?k4 ?_; (case k1 => exact News.isList (by k_asm) (by k_mem)); (case k2 => simpa using hSt99z); (case k3 => decide); (case k4 => first | omega | (simp only [] at *; omega))); intro t99z k99z) | walk1 | (dsimp only; walk1) | (leave1; walk_say "STEP leave1"; try dsimp only))
    (((with_reducible show Kept _ _ _ _); intro hSt9z; (rename ∀ (v : Value) (h' : Heap) (tk' : Nat), _ => hRet9z); refine hRet9z _ _ _ (by assumption) hSt9z ?_; clear hSt9z hRet9z))
    subst_vars
    exact ⟨_, rfl⟩
end

theorem at_J1 : True := by w_top off; trivial
noncomputable def J2 (l : Addr) (ls : List (Str × Tok)) (nn : Nat) (x y : Str) (m₀ : Str → Option Value) (Inv : List Str → List Value → Prop) (pre : List Str) (m : Str → Option Value) (nx : List (Addr × Obj)) : Prop :=
  ∃ r us n, nx = [(r, listOf us.toArray n), (l, listOf (strValues ls).toArray nn)] ∧ m y = some (.ref r) ∧ (∀ z, z ≠ x → z ≠ y → m z = m₀ z) ∧ r ≠ l ∧ Inv pre us
section
variable {prog : Program} {w : World} {A : Around} {E : Value → Shared → Prop} {s : Shared} {env : Env} {h₀ : Heap} {x y : Str} {body : List Stmt} {Q : Flow → Shared → Prop}
theorem map2 {m m₀ : Str → Option Value} {v r : Value} (h : ∀ z, z ≠ x → z ≠ y → m z = m₀ z) (e : m y = some r) : (fun z => if z = x then some v else if z = y then some r else m₀ z) = fun z => if z = x then some v else m z := by
  funext z
  by_cases h1 : z = x
  · rw [if_pos h1, if_pos h1]
  · rw [if_neg h1, if_neg h1]
    by_cases h2 : z = y
    · rw [if_pos h2, h2, e]
    · rw [if_neg h2, h z h1 h2]
theorem map2' {m m₀ : Str → Option Value} {r : Value} (h : ∀ z, z ≠ x → z ≠ y → m z = m₀ z) (e : m y = some r) : (fun z => if z = y then some r else if z = x then m z else m₀ z) = m := by
  funext z
  by_cases h2 : z = y
  · rw [if_pos h2, h2, e]
  · rw [if_neg h2]
    by_cases h1 : z = x
    · rw [if_pos h1]
    · rw [if_neg h1, h z h1 h2]
theorem loop2 {r₀ l : Addr} {us₀ : List Value} {n₀ nn : Nat} {ls : List (Str × Tok)} {m₀ : Str → Option Value} (y : Str) (Inv : List Str → List Value → Prop)
    (hh : A.handled = none) (F : Fr h₀ env.locals s.heap m₀) (N : News h₀ env.locals s.heap [(r₀, listOf us₀.toArray n₀), (l, listOf (strValues ls).toArray nn)]) (hy : m₀ y = some (.ref r₀)) (hne : r₀ ≠ l) (h0 : Inv [] us₀)
    (turn : ∀ r us n pre d post t h tk own, ls.map (·.1) = pre ++ d :: post → OwnOff own [r, l] → r ≠ l → Inv pre us →
      Fr h₀ env.locals h (fun z => if z = x then some (.str d t) else if z = y then some (.ref r) else m₀ z) → News h₀ env.locals h ((r, listOf us.toArray n) :: (l, listOf (strValues ls).toArray nn) :: own) →
      wpAny (model prog w) A (execs body env) (InvPostG h₀ env.locals (J2 l ls nn x y m₀ Inv (pre ++ [d])) own { s with heap := h, toks := tk } Q) E { s with heap := h, toks := tk })
    (done : ∀ r us n (u : Str → Option Value) h tk, Inv (ls.map (·.1)) us → Fr h₀ env.locals h (fun z => if z = y then some (.ref r) else if z = x then u z else m₀ z) → News h₀ env.locals h [(r, listOf us.toArray n), (l, listOf (strValues ls).toArray nn)] → Q .next { s with heap := h, toks := tk }) :
    wpAny (model prog w) A (pyIter (.ref l)) (fun it s₂ => LoopAtV prog w A h₀ env x body Q E it s₂) E s := by
  refine kdl_iter (vs := strValues ls) (nn := nn) (fun i m nx => J2 l ls nn x y m₀ Inv ((ls.map (·.1)).take i) m nx) hh (.tail _ (.head _)) F N ⟨r₀, us₀, n₀, rfl, hy, fun _ _ _ => rfl, hne, by simpa using h0⟩ ?_ ?_
  · rintro i v m₁ nx h tk own hv hoff _ ⟨r, us, n, rfl, hmy, hm, hrl, hI⟩ F₁ N₁
    obtain ⟨d, t, rfl, hd⟩ := strValues_get hv
    obtain ⟨h1, h2⟩ := take_split hd
    have F₂ : Fr h₀ env.locals h (fun z => if z = x then some (.str d t) else if z = y then some (.ref r) else m₀ z) := by rw [map2 hm hmy]; exact F₁
    refine wpAny_mono (turn r us n _ d _ t h tk own h2 hoff hrl hI F₂ N₁) (fun f s₂ p => ?_) fun _ _ x => x
    have up : InvEndG h₀ env.locals (J2 l ls nn x y m₀ Inv ((ls.map (·.1)).take i ++ [d])) own { s with heap := h, toks := tk } s₂ →
        InvEndG h₀ env.locals (fun m' nx => (l, listOf (strValues ls).toArray nn) ∈ nx ∧ J2 l ls nn x y m₀ Inv ((ls.map (·.1)).take (i + 1)) m' nx) own { s with heap := h, toks := tk } s₂ := by
      rintro ⟨h', tk', m', news', nx', e', F', N', hn', ho', ha, hS⟩
      refine ⟨h', tk', m', news', nx', e', F', N', hn', ho', ha, ?_, by rw [h1]; exact hS⟩
      obtain ⟨r', us', n', rfl, _⟩ := hS
      exact .tail _ (.head _)
    cases f with
    | ret v => exact p
    | brk => exact p
    | next => exact up p
    | cont => exact up p
  · rintro m₁ nx h tk ⟨r, us, n, rfl, hmy, hm, hrl, hI⟩ F₁ N₁
    rw [strValues_length, List.take_length] at hI
    refine done r us n m₁ h tk hI ?_ N₁
    rw [map2' hm hmy]; exact F₁
theorem end2 {l : Addr} {nn : Nat} {ls : List (Str × Tok)} {m₀ m' : Str → Option Value} {Inv : List Str → List Value → Prop} {pre : List Str} {L : Addr} {own news' : List (Addr × Obj)} {s₁ : Shared} {h' : Heap} {tk : Nat} (r : Addr) (us : List Value) (n : Nat)
    (hoff : OwnOff own [r, l]) (F : Fr h₀ L h' m') (N : News h₀ L h' news') (hn : ∀ p ∈ [(r, listOf us.toArray n), (l, listOf (strValues ls).toArray nn)], p ∈ news') (ho : ∀ p ∈ own, p ∈ news')
    (hmy : m' y = some (.ref r)) (hm : ∀ z, z ≠ x → z ≠ y → m' z = m₀ z) (hrl : r ≠ l) (hI : Inv pre us) :
    InvEndG h₀ L (J2 l ls nn x y m₀ Inv pre) own s₁ { s₁ with heap := h', toks := tk } :=
  ⟨h', tk, m', news', _, rfl, F, N, hn, ho, hoff, r, us, n, rfl, hmy, hm, hrl, hI⟩
end
theorem end2n {h₀ : Heap} {x y : Str} {l : Addr} {nn : Nat} {ls : List (Str × Tok)} {m₀ m' : Str → Option Value} {Inv : List Str → List Value → Prop} {pre : List Str} {L : Addr} {own news' news0 : List (Addr × Obj)} {s₁ : Shared} {h' h0 : Heap} {tk : Nat} {r a : Addr} {arr : Array Value} (us : List Value)
    (N0 : News h₀ L h0 news0) (ha : h0.objs.size ≤ a) (hl0 : (l, listOf (strValues ls).toArray nn) ∈ news0) (ho0 : ∀ p ∈ own, p ∈ news0) (hoff : OwnOff own [r, l]) (F : Fr h₀ L h' m') (N : News h₀ L h' ((a, { cls := .type "list", data := .seq arr }) :: news')) (hl : (l, listOf (strValues ls).toArray nn) ∈ news') (ho : ∀ p ∈ own, p ∈ news')
    (hmy : m' y = some (.ref a)) (hm : ∀ z, z ≠ x → z ≠ y → m' z = m₀ z) (earr : arr = us.toArray) (hI : Inv pre us) :
    InvEndG h₀ L (J2 l ls nn x y m₀ Inv pre) own s₁ { s₁ with heap := h', toks := tk } := by
  subst earr
  refine end2 a us 0 (fun p hp b hb => ?_) F N (fun p hp => ?_) (fun p hp => .tail _ (ho p hp)) hmy hm (fun e => ?_) hI
  · rcases List.mem_cons.mp hb with rfl | hb
    · exact Nat.ne_of_lt (Nat.lt_of_lt_of_le (Heap.lt_size (N0 p (ho0 p hp)).1) ha)
    · exact hoff p hp b (.tail _ hb)
  · rcases List.mem_cons.mp hp with rfl | hp
    · exact .head _
    · rw [List.mem_singleton.mp hp]; exact .tail _ hl
  · have := Heap.lt_size (N0 _ hl0).1
    exact absurd (e ▸ this) (Nat.not_lt.mpr ha)
theorem butLast_arr (us : List Value) : slicePick us.toArray none (some (-1)) none = us.dropLast.toArray := by
  have := slicePick_butLast us.toArray 1 (Nat.le_refl _)
  rw [List.dropLast_eq_take]
  simpa using this
theorem strs_drop {us : List Value} {ys : List Str} (h : StrsAre us ys) : StrsAre us.dropLast ys.dropLast := by
  cases us with
  | nil => cases h; exact .nil
  | cons a r => obtain ⟨y, t, _, _, _, h3⟩ := strs_last h rfl; exact h3
theorem any_two {d a b : Str} : ([a, b].any fun x => x == d) = true ↔ (d = a ∨ d = b) := by
  simp only [List.any_cons, List.any_nil, Bool.or_false, Bool.or_eq_true, beq_iff_eq]
  exact ⟨fun h => h.imp Eq.symm Eq.symm, fun h => h.imp Eq.symm Eq.symm⟩
theorem any_two_not {d a b : Str} (h : ([a, b].any fun x => x == d) = false) : ¬ (d = a ∨ d = b) := fun h' => by rw [any_two.mpr h'] at h; cases h
noncomputable def plainStep (acc : List Str) (c : Str) : List Str := if c = Str.ofString ".." then acc.dropLast else if c = Str.ofString "" ∨ c = Str.ofString "." then acc else acc ++ [c]
noncomputable def plainL (xs : List Str) : List Str := xs.foldl plainStep []
noncomputable def aheadF (x : Str) : Str := if Txt.slice x none (some 2) = Str.ofString "//" ∧ Txt.slice x (some 2) (some 3) ≠ Str.ofString "/" then Str.ofString "//" else Str.ofString "/"
noncomputable def plainF (x : Str) : Str := aheadF x ++ Txt.join (Str.ofString "/") (plainL (Txt.split x (Str.ofString "/")))
theorem wt_plainStep (acc : List Str) (c : Str) : wt (plainStep acc c) ≤ wt acc + (c.length + 1) := by
  unfold plainStep
  split
  · have := wt_dropLast acc; omega
  · split
    · omega
    · rw [wt_append, wt_cons, wt_nil]; omega
theorem wt_plainFold : ∀ (xs acc : List Str), wt (xs.foldl plainStep acc) ≤ wt acc + wt xs
  | [], acc => by simp
  | c :: r, acc => by
    have h1 := wt_plainFold r (plainStep acc c)
    have h2 := wt_plainStep acc c
    rw [List.foldl_cons, wt_cons]; omega
theorem wt_plainL (xs : List Str) : wt (plainL xs) ≤ wt xs := by
  have := wt_plainFold xs []
  rw [wt_nil] at this; unfold plainL; omega
theorem plainL_snoc (xs : List Str) (c : Str) : plainL (xs ++ [c]) = plainStep (plainL xs) c := by simp [plainL]
theorem plain_turn {x : Str} {ls : List (Str × Tok)} {pre post : List Str} {us : List Value} {d : Str} (hx : x.length ≤ 100000) (eS : ls.map (·.1) = Txt.split x (Str.ofString "/")) (e : ls.map (·.1) = pre ++ d :: post) (hI : StrsAre us (plainL pre)) :
    d.length ≤ 100000 ∧ us.length ≤ 100001 := by
  have h1 := wt_split x (Str.ofString "/") (by decide)
  rw [← eS, e, wt_append, wt_cons] at h1
  have h3 := wt_plainL pre
  have h4 := wt_len (plainL pre)
  have h5 := strsAre_length hI
  omega
theorem plain_done {x : Str} {ls : List (Str × Tok)} (hx : x.length ≤ 100000) (eS : ls.map (·.1) = Txt.split x (Str.ofString "/")) :
    ((plainL (ls.map (·.1))).map (·.length)).sum + (plainL (ls.map (·.1))).length ≤ 100001 := by
  have h1 := wt_split x (Str.ofString "/") (by decide)
  rw [← eS] at h1
  have h3 := wt_plainL (ls.map (·.1))
  unfold wt at h3 h1
  omega
noncomputable def AheadPost (h₀ : Heap) (L : Addr) (m : Str → Option Value) (news : List (Addr × Obj)) (x : Str) (s : Shared) (v : Value) (s' : Shared) : Prop := ∃ t tk h', v = .str (aheadF x) t ∧ s' = { s with heap := h', toks := tk } ∧ Fr h₀ L h' m ∧ News h₀ L h' news
theorem AheadPost.mk {h₀ h' : Heap} {L : Addr} {m : Str → Option Value} {news : List (Addr × Obj)} {x y : Str} {s : Shared} {t : Tok} {tk : Nat} (F : Fr h₀ L h' m) (N : News h₀ L h' news) (h : y = aheadF x) : AheadPost h₀ L m news x s (.str y t) { s with heap := h', toks := tk } := ⟨t, tk, h', by rw [h], rfl, F, N⟩
theorem news_swap {h₀ h : Heap} {L : Addr} {a b : Addr × Obj} (N : News h₀ L h [a, b]) : News h₀ L h [b, a] := fun p hp => N p (by
  rcases List.mem_cons.mp hp with rfl | hp
  · exact .tail _ (.head _)
  · rw [List.mem_singleton.mp hp]; exact .head _)
theorem cut_ahead {M : Model} {A : Around} {t : Sem Value} {Q E : Value → Shared → Prop} {s : Shared} {h₀ : Heap} {L : Addr} {m : Str → Option Value} {news : List (Addr × Obj)} (x : Str) (_F : Fr h₀ L s.heap m) (_N : News h₀ L s.heap news) (h1 : wpAny M A t (AheadPost h₀ L m news x s) (fun _ _ => False) s) (h2 : ∀ t' tk h' y, Fr h₀ L h' m → News h₀ L h' news → y = aheadF x → y.length ≤ 2 → Q (.str y t') { s with heap := h', toks := tk }) : wpAny M A t Q E s :=
  wpAny_mono h1 (fun v s' h => by obtain ⟨t, tk, h', rfl, rfl, F', N'⟩ := h; exact h2 t tk h' _ F' N' rfl (by unfold aheadF; split <;> decide)) fun _ _ h => h.elim
section
local macro_rules | `(tactic| walk_at "exec For Name Call cons nil") => `(tactic| (k_here; refine Hold.out ?_))
local macro_rules | `(tactic| walk_at "pyIter ref") => `(tactic| (k_here; refine Hold.out ?_))
local macro_rules | `(tactic| walk_at "eval IfExp") => `(tactic| (k_here; (fail_if_success (with_reducible show wpAny _ _ _ (AheadPost _ _ _ _ _ _) _ _)); refine Hold.out ?_))
local macro_rules | `(tactic| walk_at "my pad") => `(tactic| fail)
local macro_rules | `(tactic| walk_at "my pad") => `(tactic| fail)
theorem plain_c (w : World) (x : Str) (t : Tok) (hx : x.length ≤ 100000) : Pure 1 w 367 [.str x t] (fun _ => True) (fun _ _ v => ∃ t, v = .str (plainF x) t) := by
  ((intro mean9z mg9z mb9z dp9z un9z gd9z cn9z cs9z a9z ccd9z cl9z outer9z A₀9z base9z h₀9z L9z m9z s9z Q9z E9z B9z F9z X9z T9z hk9z hdp9z hun9z hpre9z hret9z; refine wpAny_call ?_; k_dflt (((refine' enter0 ?k1 ?k2 ?k3 ?k5 ?kA ?kF ?kK ?k6 ?k7 ?k8 ?k9 ?kB ?_ ?c2 ?c3 ?c4 ?c5; (((case kA => exact rfl); (case kF => exact rfl); (case kK => first | exact rfl | assumption); (case k1 => k_asm); (case k2 => k_asm); (case k3 => k_asm); (try (case k4 => k_asm)); (case k5 => k_asm); (case k6 => k_is); (case k7 => k_is); (case k8 => ktr_room); (try (case k9 => first | exact BindsTo.of_eq rfl | (refine' kp_binds ?kx ?ke; (case kx => k_in); (case ke => exact fun _ => rfl)))))); (((try (case c5 => decide)); (try (case kB => exact locs rfl)); (case c2 => exact rfl); (case c3 => exact rfl); (case c4 => exact rfl); k_whole)); intro g9z L9z h9z FG9z F9z N9z B9z X9z T9z St9z; (try dsimp only); (try k_lift B9z); (try k_fold))))))
  repeat' (first | (k_unfold; (try dsimp only)) | (k_end; wrow_close) | ((fail_if_success (with_reducible show wpAny _ _ _ _ _ _)); dsimp only) | with_reducible (k_here; (with_reducible show wpAny _ _ (call (Value.builtin "str.join") [Value.str _ _, Value.ref _]) _ _ _); (with_reducible rename StrsAre _ _ => hSt99z); k_dflt (refine' join_listW (ys := ?ys) ?k1 ?k2 ?k3 ?k4 ?_; (case k1 => exact News.isList (by k_asm) (by k_mem)); (case k2 => simpa using hSt99z); (case k3 => decide); (case k4 => first | omega | (simp only [] at *; omega))); intro t99z k99z) | with_reducible (k_here; (with_reducible show wpAny _ _ (call (Value.builtin "str.split") _) _ _ _); refine KSpl.split1 (by k_asm) (by k_asm) (by decide) ?_ (by (first | exact split_fits (by assumption) | exact split_fits (Nat.le_trans (restOf_le _) (by assumption)))); intro D9z l9z h9z k9z e9z a9z F9z N9z l19z; (try k_lt l19z)) | walk1 | (dsimp only; walk1) | (leave1; walk_say "STEP leave1"; try dsimp only))
  unfold Hold
  refine cut_ahead x (by k_asm) (by k_asm) ?_ ?_
  · repeat' (first | (k_unfold; (try dsimp only)) | (k_end; wrow_close) | ((fail_if_success (with_reducible show wpAny _ _ _ _ _ _)); dsimp only) | with_reducible (k_here; (with_reducible show wpAny _ _ (call (Value.builtin "str.join") [Value.str _ _, Value.ref _]) _ _ _); (with_reducible rename StrsAre _ _ => hSt99z); k_dflt (refine' join_listW (ys := ?ys) ?k1 ?k2 ?k3 ?k4 ?_; (case k1 => exact News.isList (by k_asm) (by k_mem)); (case k2 => simpa using hSt99z); (case k3 => decide); (case k4 => first | omega | (simp only [] at *; omega))); intro t99z k99z) | with_reducible (k_here; (with_reducible show wpAny _ _ (call (Value.builtin "str.split") _) _ _ _); refine KSpl.split1 (by k_asm) (by k_asm) (by decide) ?_ (by (first | exact split_fits (by assumption) | exact split_fits (Nat.le_trans (restOf_le _) (by assumption)))); intro D9z l9z h9z k9z e9z a9z F9z N9z l19z; (try k_lt l19z)) | walk1 | (dsimp only; walk1) | (leave1; walk_say "STEP leave1"; try dsimp only))
    all_goals (refine AheadPost.mk (by assumption) (by assumption) ?_; unfold aheadF; simp_all)
  intro t9 tk9 h9 y9 F9 N9 e9 hl9
  repeat' (first | (k_unfold; (try dsimp only)) | (k_end; wrow_close) | ((fail_if_success (with_reducible show wpAny _ _ _ _ _ _)); dsimp only) | with_reducible (k_here; (with_reducible show wpAny _ _ (call (Value.builtin "str.join") [Value.str _ _, Value.ref _]) _ _ _); (with_reducible rename StrsAre _ _ => hSt99z); k_dflt (refine' join_listW (ys := ?ys) ?k1 ?k2 ?k3 ?k4 ?_; (case k1 => exact News.isList (by k_asm) (by k_mem)); (case k2 => simpa using hSt99z); (case k3 => decide); (case k4 => first | omega | (simp only [] at *; omega))); intro t99z k99z) | with_reducible (k_here; (with_reducible show wpAny _ _ (call (Value.builtin "str.split") _) _ _ _); refine KSpl.split1 (by k_asm) (by k_asm) (by decide) ?_ (by (first | exact split_fits (by assumption) | exact split_fits (Nat.le_trans (restOf_le _) (by assumption)))); intro D9z l9z h9z k9z e9z a9z F9z N9z l19z; (try k_lt l19z)) | walk1 | (dsimp only; walk1) | (leave1; walk_say "STEP leave1"; try dsimp only))
  unfold Hold
  (refine' For_invVF (m := ?mm) ?F ?k1 ?k2 ?_ ?hs ?hE; (case F => k_asm); (case k1 => exact rfl); (case k2 => exact rfl); (case hE => passes_own); (case hs => intro _; rfl); k_whole)
  repeat' (first | (k_unfold; (try dsimp only)) | (k_end; wrow_close) | ((fail_if_success (with_reducible show wpAny _ _ _ _ _ _)); dsimp only) | with_reducible (k_here; (with_reducible show wpAny _ _ (call (Value.builtin "str.join") [Value.str _ _, Value.ref _]) _ _ _); (with_reducible rename StrsAre _ _ => hSt99z); k_dflt (refine' join_listW (ys := ?ys) ?k1 ?k2 ?k3 ?k4 ?_; (case k1 => exact News.isList (by k_asm) (by k_mem)); (case k2 => simpa using hSt99z); (case k3 => decide); (case k4 => first | omega | (simp only [] at *; omega))); intro t99z k99z) | with_reducible (k_here; (with_reducible show wpAny _ _ (call (Value.builtin "str.split") _) _ _ _); refine KSpl.split1 (by k_asm) (by k_asm) (by decide) ?_ (by (first | exact split_fits (by assumption) | exact split_fits (Nat.le_trans (restOf_le _) (by assumption)))); intro D9z l9z h9z k9z e9z a9z F9z N9z l19z; (try k_lt l19z)) | walk1 | (dsimp only; walk1) | (leave1; walk_say "STEP leave1"; try dsimp only))
  unfold Hold
  rename (_ = Txt.split _ _) => eS
  rename News _ _ _ _ => nN
  refine loop2 (Str.ofString "row") (fun pre us => StrsAre us (plainL pre)) rfl (by k_asm) (news_swap nN) rfl (Nat.ne_of_lt (by assumption)) ?_ ?_ ?_
  · exact .nil
  · intro r us n pre d post t h tk own e hoff hrl hI F' N'
    have kM := kdMark
    obtain ⟨hdl, hul⟩ := plain_turn hx eS e hI
    have hI0 := hI
    repeat' (first | (k_unfold; (try dsimp only)) | (k_end; wrow_close) | ((fail_if_success (with_reducible show wpAny _ _ _ _ _ _)); dsimp only) | with_reducible (k_here; (with_reducible show wpAny _ _ (call (Value.builtin "str.join") [Value.str _ _, Value.ref _]) _ _ _); (with_reducible rename StrsAre _ _ => hSt99z); k_dflt (refine' join_listW (ys := ?ys) ?k1 ?k2 ?k3 ?k4 ?_; (case k1 => exact News.isList (by k_asm) (by k_mem)); (case k2 => simpa using hSt99z); (case k3 => decide); (case k4 => first | omega | (simp only [] at *; omega))); intro t99z k99z) | with_reducible (k_here; (with_reducible show wpAny _ _ (call (Value.builtin "str.split") _) _ _ _); refine KSpl.split1 (by k_asm) (by k_asm) (by decide) ?_ (by (first | exact split_fits (by assumption) | exact split_fits (Nat.le_trans (restOf_le _) (by assumption)))); intro D9z l9z h9z k9z e9z a9z F9z N9z l19z; (try k_lt l19z)) | walk1 | (dsimp only; walk1) | (leave1; walk_say "STEP leave1"; try dsimp only))
    all_goals (rename News _ _ _ _ => nN; (try dsimp only at nN))
    · refine end2n us.dropLast N' (Nat.le_succ _) (by k_mem) (fun p hp => .tail _ (.tail _ hp)) hoff (by assumption) nN (by k_mem) (fun p hp => .tail _ (.tail _ hp)) rfl (fun z h1 h2 => by simp only [h1, h2, if_false]) (butLast_arr us) ?_
      rw [plainL_snoc]; unfold plainStep; rw [if_pos (by simp_all)]; exact strs_drop hI
    · refine end2 r us n hoff (by assumption) nN (fun p hp => by rcases List.mem_cons.mp hp with rfl | hp; exact .tail _ (.head _); rw [List.mem_singleton.mp hp]; exact .tail _ (.tail _ (.head _))) (fun p hp => .tail _ (.tail _ (.tail _ hp))) rfl (fun z h1 h2 => by simp only [h1, h2, if_false]) hrl ?_
      rename (List.any _ _ = true) => hA
      rename ((d == _) = _) => hD
      rw [plainL_snoc]; unfold plainStep; rw [if_neg (by simpa using hD), if_pos (any_two.mp hA)]; exact hI
    · rename (List.any _ _ = false) => hA
      rename ((d == _) = _) => hD
      refine end2n (us ++ [Value.str d t]) (by assumption) (Nat.le_refl _) (by k_mem) (fun p hp => .tail _ (.tail _ (.tail _ (.tail _ hp)))) hoff (by assumption) nN (by k_mem) (fun p hp => .tail _ (.tail _ (.tail _ (.tail _ hp)))) rfl (fun z h1 h2 => by simp only [h1, h2, if_false]) rfl ?_
      rw [plainL_snoc]; unfold plainStep; rw [if_neg (by simpa using hD), if_neg (any_two_not hA)]; exact strs_snoc hI
  · intro r us n u h tk hI F' N'
    have hw := plain_done hx eS
    rw [eS] at hI hw
    have hj := join_le (sep := Str.ofString "/") hw (by decide)
    repeat' (first | (k_unfold; (try dsimp only)) | (k_end; wrow_close) | ((fail_if_success (with_reducible show wpAny _ _ _ _ _ _)); dsimp only) | with_reducible (k_here; (with_reducible show wpAny _ _ (call (Value.builtin "str.join") [Value.str _ _, Value.ref _]) _ _ _); (with_reducible rename StrsAre _ _ => hSt99z); k_dflt (refine' join_listW (ys := ?ys) ?k1 ?k2 ?k3 ?k4 ?_; (case k1 => exact News.isList (by k_asm) (by k_mem)); (case k2 => simpa using hSt99z); (case k3 => decide); (case k4 => first | omega | (simp only [] at *; omega))); intro t99z k99z) | with_reducible (k_here; (with_reducible show wpAny _ _ (call (Value.builtin "str.split") _) _ _ _); refine KSpl.split1 (by k_asm) (by k_asm) (by decide) ?_ (by (first | exact split_fits (by assumption) | exact split_fits (Nat.le_trans (restOf_le _) (by assumption)))); intro D9z l9z h9z k9z e9z a9z F9z N9z l19z; (try k_lt l19z)) | walk1 | (dsimp only; walk1) | (leave1; walk_say "STEP leave1"; try dsimp only))
    all_goals ((((with_reducible show Kept _ _ _ _); intro hSt9z; (rename ∀ (v : Value) (h' : Heap) (tk' : Nat), _ => hRet9z); refine hRet9z _ _ _ (by assumption) hSt9z ?_; clear hSt9z hRet9z)); refine str_end ?_; unfold plainF; rw [e9])
end

theorem at_K1 : True := by w_top off; trivial
noncomputable def JG {δ : Type} (l : Addr) (lo : Obj) (x : Str) (stored : List Str) (m₀ : Str → Option Value) (St : List δ → List (Addr × Obj) → Prop) (pre : List δ) (m : Str → Option Value) (nx : List (Addr × Obj)) : Prop :=
  (l, lo) ∈ nx ∧ (∀ z, z ≠ x → stored.contains z = false → m z = m₀ z) ∧ St pre nx
theorem take_splitG {δ : Type} {xs : List δ} {i : Nat} {d : δ} (h : xs[i]? = some d) : xs.take (i + 1) = xs.take i ++ [d] ∧ xs = xs.take i ++ d :: xs.drop (i + 1) := by
  have h1 : xs.take (i + 1) = xs.take i ++ [d] := by rw [List.take_add_one, h]; rfl
  refine ⟨h1, ?_⟩
  have := (List.take_append_drop (i + 1) xs).symm
  rw [h1] at this
  simpa using this
section
variable {prog : Program} {w : World} {A : Around} {E : Value → Shared → Prop} {s : Shared} {env : Env} {h₀ : Heap} {x : Str} {body : List Stmt} {Q : Flow → Shared → Prop} {δ : Type}
/-- a for over the list of the values vs (they stand for ds), whose state is what St says of the ledger -/
theorem loopG {l : Addr} {vs : List Value} {nn : Nat} {ds : List δ} {news : List (Addr × Obj)} {m₀ : Str → Option Value} (enc : δ → Tok → Value) (stored : List Str) (St : List δ → List (Addr × Obj) → Prop)
    (hv : ∀ (i : Nat) v, vs[i]? = some v → ∃ d t, v = enc d t ∧ ds[i]? = some d) (hlen : vs.length = ds.length)
    (hh : A.handled = none) (F : Fr h₀ env.locals s.heap m₀) (N : News h₀ env.locals s.heap news) (hl : (l, listOf vs.toArray nn) ∈ news) (h0 : St [] news)
    (turn : ∀ nx pre d post t (u : Str → Option Value) h tk own, ds = pre ++ d :: post → OwnOff own (nx.map (·.1)) → (l, listOf vs.toArray nn) ∈ nx → St pre nx →
      Fr h₀ env.locals h (fun y => if y = x then some (enc d t) else if stored.contains y then u y else m₀ y) → News h₀ env.locals h (nx ++ own) →
      wpAny (model prog w) A (execs body env) (InvPostG h₀ env.locals (JG l (listOf vs.toArray nn) x stored m₀ St (pre ++ [d])) own { s with heap := h, toks := tk } Q) E { s with heap := h, toks := tk })
    (done : ∀ nx (u : Str → Option Value) h tk, St ds nx → Fr h₀ env.locals h (fun y => if y = x then u y else if stored.contains y then u y else m₀ y) → News h₀ env.locals h nx → Q .next { s with heap := h, toks := tk }) :
    wpAny (model prog w) A (pyIter (.ref l)) (fun it s₂ => LoopAtV prog w A h₀ env x body Q E it s₂) E s := by
  refine kdl_iter (vs := vs) (nn := nn) (fun i m nx => JG l (listOf vs.toArray nn) x stored m₀ St (ds.take i) m nx) hh hl F N ⟨hl, fun _ _ _ => rfl, by simpa using h0⟩ ?_ ?_
  · rintro i v m₁ nx h tk own hvi hoff hln ⟨_, hm, hI⟩ F₁ N₁
    obtain ⟨d, t, rfl, hd⟩ := hv i v hvi
    obtain ⟨h1, h2⟩ := take_splitG hd
    have F₂ : Fr h₀ env.locals h (fun y => if y = x then some (enc d t) else if stored.contains y then m₁ y else m₀ y) := by
      have e : (fun y => if y = x then some (enc d t) else if stored.contains y then m₁ y else m₀ y) = fun y => if y = x then some (enc d t) else m₁ y := by
        funext y
        by_cases hy : y = x
        · simp [hy]
        · simp only [if_neg hy]
          by_cases hs : stored.contains y = true
          · simp only [if_pos hs]
          · have hs' : stored.contains y = false := by simpa using hs
            simp only [hs', Bool.false_eq_true, if_false]; exact (hm y hy hs').symm
      rw [e]; exact F₁
    refine wpAny_mono (turn nx _ d _ t m₁ h tk own h2 hoff hln hI F₂ N₁) (fun f s₂ p => ?_) fun _ _ x => x
    have up : InvEndG h₀ env.locals (JG l (listOf vs.toArray nn) x stored m₀ St (ds.take i ++ [d])) own { s with heap := h, toks := tk } s₂ →
        InvEndG h₀ env.locals (fun m' nx => (l, listOf vs.toArray nn) ∈ nx ∧ JG l (listOf vs.toArray nn) x stored m₀ St (ds.take (i + 1)) m' nx) own { s with heap := h, toks := tk } s₂ := by
      rintro ⟨h', tk', m', news', nx', e', F', N', hn', ho', ha, hS⟩
      exact ⟨h', tk', m', news', nx', e', F', N', hn', ho', ha, hS.1, by rw [h1]; exact hS⟩
    cases f with
    | ret v => exact p
    | brk => exact p
    | next => exact up p
    | cont => exact up p
  · rintro m₁ nx h tk ⟨_, hm, hI⟩ F₁ N₁
    rw [hlen, List.take_length] at hI
    refine done nx m₁ h tk hI ?_ N₁
    have e : (fun y => if y = x then m₁ y else if stored.contains y then m₁ y else m₀ y) = m₁ := by
      funext y
      by_cases hy : y = x
      · simp [hy]
      · simp only [if_neg hy]
        by_cases hs : stored.contains y = true
        · simp only [if_pos hs]
        · have hs' : stored.contains y = false := by simpa using hs
          simp only [hs', Bool.false_eq_true, if_false]; exact (hm y hy hs').symm
    rw [e]; exact F₁
theorem endG {l : Addr} {lo : Obj} {m₀ m' : Str → Option Value} {stored : List Str} {St : List δ → List (Addr × Obj) → Prop} {pre : List δ} {L : Addr} {own news' : List (Addr × Obj)} {s₁ : Shared} {h' : Heap} {tk : Nat} (nx : List (Addr × Obj))
    (hoff : OwnOff own (nx.map (·.1))) (F : Fr h₀ L h' m') (N : News h₀ L h' news') (hn : ∀ p ∈ nx, p ∈ news') (ho : ∀ p ∈ own, p ∈ news')
    (hm : ∀ z, z ≠ x → stored.contains z = false → m' z = m₀ z) (hl : (l, lo) ∈ nx) (hI : St pre nx) :
    InvEndG h₀ L (JG l lo x stored m₀ St pre) own s₁ { s₁ with heap := h', toks := tk } :=
  ⟨h', tk, m', news', nx, rfl, F, N, hn, ho, hoff, hl, hm, hI⟩
end
theorem ints_get {vs : List Value} {ns : List Int} (h : IntsAre vs ns) : ∀ (i : Nat) v, vs[i]? = some v → ∃ d t, v = Value.int d t ∧ ns[i]? = some d := by
  induction h with
  | nil => intro i v h; simp at h
  | cons n t _ ih =>
    intro i v h
    cases i with
    | zero => exact ⟨n, t, by simpa using h.symm, rfl⟩
    | succ i => simpa using ih i v (by simpa using h)
theorem strsV_get (ls : List (Str × Tok)) : ∀ (i : Nat) v, (strValues ls)[i]? = some v → ∃ d t, v = Value.str d t ∧ (ls.map (·.1))[i]? = some d := fun _ _ h => strValues_get h
theorem strs_get {vs : List Value} {ys : List Str} (h : StrsAre vs ys) : ∀ (i : Nat) v, vs[i]? = some v → ∃ d t, v = Value.str d t ∧ ys[i]? = some d := by
  induction h with
  | nil => intro i v h; simp at h
  | cons n t _ ih =>
    intro i v h
    cases i with
    | zero => exact ⟨n, t, by simpa using h.symm, rfl⟩
    | succ i => simpa using ih i v (by simpa using h)

theorem at_M1 : True := by w_top off; trivial
section
variable {prog : Program} {w : World} {A : Around} {E : Value → Shared → Prop} {s : Shared} {h₀ : Heap} {L : Addr} {m : Str → Option Value} {env : Env}
noncomputable def SrcS (prog : Program) (w : World) (A : Around) (h₀ : Heap) (L : Addr) (m : Str → Option Value) (env : Env) (elt : Expr) (x : Str) (scope : Scope) (cl : List (Str × Addr)) (Q : Value → Shared → Prop) (xv : Value) (s₁ : Shared) : Prop :=
  ∃ y t news, xv = .str y t ∧ A.handled = none ∧ y.cps.all (· < 128) = true ∧ Fr h₀ L s₁.heap m ∧ News h₀ L s₁.heap news ∧ y.cps.size ≤ 1000 ∧
    ∀ g, LCg.CompRest prog w A h₀ L m env elt x scope cl { s₁ with heap := g } (fun _ => True) (SignAt y) (LCg.FinE h₀ L m { s₁ with heap := g } Q) y.cps.size 0 [] news
/-- a comprehension over the signs of a text -/
theorem ListComp_S {elt iter : Expr} {x : Str} {px : Pos} {scope : Scope} {cl : List (Str × Addr)} {pos : Pos} {Q : Value → Shared → Prop} (_F₀ : Fr h₀ L s.heap m)
    (hclos : closureFor scope env = pure cl) (hcell : ∀ y ∈ scope.names, y.2 ≠ .cell) (hkind : scope.kind = .function)
    (hnames : ∀ y ∈ scope.names, y.2 = .local → scope.names.lookup y.1 = some .local) (hx : scope.names.lookup x = some .local)
    (h : wpAny (model prog w) A (eval iter env) (SrcS prog w A h₀ L m env elt x scope cl Q) E s)
    (hs : ∀ x, foldedSetIterable iter env x = pure x := by intro _; rfl) :
    wpAny (model prog w) A (eval (.ListComp elt [⟨.Name x px, iter, [], 0⟩] scope pos) env) Q E s := by
  rw [eval_ListComp]
  refine wpAny_comprehension_free (use := none) rfl hs hclos hkind hnames (wpAny_mono h (fun xv s₁ h₁ => ?_) fun _ _ e => e)
  obtain ⟨y, t, news, rfl, hh, ha, F, N, hsz, R⟩ := h₁
  refine wpAny_pyIter_ascii ha ?_
  have up : ∀ b o, s₁.heap.get? b = some o → (s₁.heap.push { cls := .type "str_ascii_iterator", data := .fields #[.str y t, .int 0 0] }).get? b = some o := fun b o e => Heap.get?_push_of_some _ e
  refine LCg.block_U (Walks.strAscii hh s₁.heap.objs.size y t) (by rw [sizeLine_eq]; omega) (fun i h st => by obtain ⟨o, e, _⟩ := st; exact ⟨o, e⟩) (fun i h h' o nw st e e' _ _ _ => by obtain ⟨o', q, r⟩ := st; rw [e] at q; cases q; exact ⟨o, e', r⟩) hcell hkind hx ⟨_, Heap.get?_push_size _ rfl, rfl, rfl⟩ (fun b hb => ?_)
    (F.keeps up) (N.grown up) (Nat.ne_of_lt F.ns.lt) (next_is_new F) (fun p hp => Nat.ne_of_lt (Heap.lt_size (N p hp).1)) trivial (R _) ?_
  · rw [List.mem_singleton.mp hb]
    show s₁.heap.objs.size < (s₁.heap.push _).objs.size
    rw [Heap.size_push]; exact Nat.lt_succ_self _
  · intro D C h tk m' ys news' F' N' o1 hn hC₀ hD₀ hCL hDL hCD offC fin
    refine ⟨m', hn, fun h'' hs'' => fin D h'' tk (F'.change hs'' hCL hC₀) (fun p hp => ?_) o1⟩
    refine ⟨hs''.extBut _ _ ?_ (N' p hp).1, (N' p hp).2⟩
    rcases List.mem_cons.mp hp with rfl | hp
    · exact Ne.symm hCD
    · exact offC p hp
/-- what an element's run must end in: the text r, the ledger as it was -/
noncomputable def EltPost (h₀ : Heap) (L : Addr) (m : Str → Option Value) (news : List (Addr × Obj)) (r : Str) (s : Shared) (y : Value) (s₂ : Shared) : Prop :=
  ∃ h' tk' t, y = .str r t ∧ s₂ = { s with heap := h', toks := tk' } ∧ Fr h₀ L h' m ∧ News h₀ L h' news
theorem EltPost.mk {h' : Heap} {news news' : List (Addr × Obj)} {r r' : Str} {t : Tok} {tk' : Nat} (F : Fr h₀ L h' m) (N : News h₀ L h' news') (hs : ∀ p ∈ news, p ∈ news') (e : r' = r) : EltPost h₀ L m news r s (.str r' t) { s with heap := h', toks := tk' } :=
  ⟨h', tk', t, by rw [e], rfl, F, fun p hp => N p (hs p hp)⟩
theorem comp_map {elt : Expr} {x : Str} {scope : Scope} {cl : List (Str × Addr)} {P : Nat → Value → Prop} {S : List (Addr × Obj) → Prop} {Fin : List Value → List (Addr × Obj) → Prop} {news : List (Addr × Obj)} (f : Nat → Str) (n : Nat) (hS : S news)
    (step : ∀ i v I oI C oC D m₂ h tk ys (E' : Value → Shared → Prop), i < n → P i v → LCg.NsObj oC m₂ → m₂ x = some v → Fr h₀ L h m → News h₀ L h ((I, oI) :: (C, oC) :: (D, LCg.lst ys) :: news) → LCg.Off3 I C D news → ((@Ne Nat I C) ∧ (@Ne Nat I D) ∧ (@Ne Nat C D)) →
      wpAny (model prog w) A (eval elt (compEnvC scope cl C env)) (EltPost h₀ L m ((I, oI) :: (C, oC) :: (D, LCg.lst ys) :: news) (f i) { s with heap := h, toks := tk }) E' { s with heap := h, toks := tk })
    (fin : ∀ ys, StrsAre ys ((List.range n).map f) → Fin ys news) : LCg.CompRest prog w A h₀ L m env elt x scope cl s S P Fin n 0 [] news := by
  suffices H : ∀ k i ys, i + k = n → StrsAre ys ((List.range i).map f) → LCg.CompRest prog w A h₀ L m env elt x scope cl s S P Fin k i ys news from H n 0 [] (by omega) .nil
  intro k
  induction k with
  | zero => intro i ys hi hy; have : i = n := by omega
            subst this; exact fin ys hy
  | succ k ih =>
    intro i ys hi hy v I oI C oC D m₂ h tk E' hP hC hx F N off ne
    refine wpAny_mono (step i v I oI C oC D m₂ h tk ys E' (by omega) hP hC hx F N off ne) (fun y s₂ hp => ?_) fun _ _ x => x
    obtain ⟨h', tk', t, rfl, rfl, F', N'⟩ := hp
    refine ⟨h', tk', news, rfl, F', N', off, hS, ih (i + 1) _ (by omega) ?_⟩
    rw [List.range_succ, List.map_append]
    exact strs_snoc hy
end

theorem at_M2 : True := by w_top off; trivial
noncomputable def absF (d : Int) : Int := (if d < 0 then -d else d).fmod 10000
noncomputable def textF (d : Int) : Str := Str.ofString (toString (absF d))
theorem absF_nat (d : Int) : ∃ m : Nat, absF d = (m : Int) ∧ m < 10000 := by
  have h1 : 0 ≤ absF d := Int.fmod_nonneg_of_pos _ (by decide)
  have h2 : absF d < 10000 := Int.fmod_lt_of_pos _ (by decide)
  exact ⟨(absF d).toNat, by omega, by omega⟩
theorem textF_facts (d : Int) : (textF d).cps.size ≤ 4 ∧ ∀ c ∈ (textF d).cps.toList, 48 ≤ c ∧ c ≤ 57 := by
  obtain ⟨m, e, hm⟩ := absF_nat d
  have e2 : (textF d).cps.toList = (Nat.toDigits 10 m).map Char.toNat := by
    unfold textF; rw [e]; exact KIN.signs_num m
  refine ⟨?_, ?_⟩
  · have h := toDigits_len_pow (b := 10) (k := 4) (n := m) (by decide) (by decide) (by omega)
    have : (textF d).cps.toList.length ≤ 4 := by rw [e2, List.length_map]; exact h
    simpa using this
  · rw [e2]
    intro c hc
    obtain ⟨ch, hch, e3⟩ := List.mem_map.mp hc
    have r := digit_range (Nat.isDigit_of_mem_toDigits (by decide) (by decide) hch)
    rw [← e3]; exact r
theorem textF_get {d : Int} {i c : Nat} (h : (textF d).cps[i]? = some c) : 48 ≤ c ∧ c ≤ 57 := by
  refine (textF_facts d).2 c ?_
  have : (textF d).cps.toList[i]? = some c := by simpa using h
  exact List.mem_of_getElem? this
theorem textF_ascii (d : Int) : (textF d).cps.all (· < 128) = true := by
  rw [Array.all_eq_true']
  intro c hc
  have := (textF_facts d).2 c (by simpa using hc)
  simp; omega
theorem digit_text {c : Nat} (h : 48 ≤ c ∧ c ≤ 57) : PySem.intText? (⟨#[c]⟩ : Str) = some ((c - 48 : Nat) : Int) := by
  have : ∀ d : Nat, d < 58 → 48 ≤ d → PySem.intText? (⟨#[d]⟩ : Str) = some ((d - 48 : Nat) : Int) := by decide +kernel
  exact this c (Nat.lt_succ_of_le h.2) h.1
theorem int_digit {prog : Program} {w : World} {A : Around} {E : Value → Shared → Prop} {s : Shared} {c : Nat} {t : Tok} {Q : Value → Shared → Prop} (hc : 48 ≤ c ∧ c ≤ 57) (h : Q (.int ((c - 48 : Nat) : Int) s.toks) { s with toks := s.toks + 1 }) :
    wpAny (model prog w) A (call (.type "int") [.str (⟨#[c]⟩ : Str) t]) Q E s := KIN.call_text (digit_text hc) (Nat.le_of_ble_eq_true rfl) h
noncomputable def partsL : List Str := [Str.ofString "a", Str.ofString "..", Str.ofString ".", Str.ofString "", Str.ofString "b\"c", Str.ofString "d", Str.ofString "x\\y", Str.ofString "n", Str.ofString "d d"]
noncomputable def baseL : List Str := [Str.ofString "/a/./b\"c", Str.ofString "/d", Str.ofString "/a/../d d/", Str.ofString "//a", Str.ofString "/p", Str.ofString "/t", Str.ofString "/c", Str.ofString "/k", Str.ofString "/i", Str.ofString "/v", Str.ofString "/u"]
noncomputable def figF (c : Nat) : Str := partsL.getD ((((c - 48 : Nat)) : Int).fmod 9).toNat (Str.ofString "")
noncomputable def reqF (d : Int) : Str := Str.ofString "/" ++ Txt.join (Str.ofString "/") ((textF d).cps.toList.map figF)
theorem figF_mem (c : Nat) : figF c ∈ partsL := by
  unfold figF
  have h1 : 0 ≤ (((c - 48 : Nat)) : Int).fmod 9 := Int.fmod_nonneg_of_pos _ (by decide)
  have h2 : (((c - 48 : Nat)) : Int).fmod 9 < 9 := Int.fmod_lt_of_pos _ (by decide)
  generalize (((c - 48 : Nat)) : Int).fmod 9 = i at *
  have h3 : i.toNat < partsL.length := by show i.toNat < 9; omega
  rw [List.getD_eq_getElem?_getD, List.getElem?_eq_getElem h3]
  exact List.getElem_mem h3
theorem figF_len (c : Nat) : (figF c).length ≤ 3 := by
  have h := figF_mem c
  have : ∀ p ∈ partsL, p.length ≤ 3 := by decide
  exact this _ h
theorem itemL {prog : Program} {w : World} {A : Around} {E : Value → Shared → Prop} {s : Shared} {h₀ : Heap} {L D : Addr} {news : List (Addr × Obj)} {value slice : Expr} {vs : List Value} {ys : List Str} {i : Int} {ti : Tok} {n : Nat} {Q : Value → Shared → Prop}
    (N : News h₀ L s.heap news) (hm : (D, listOf vs.toArray n) ∈ news) (hy : StrsAre vs ys) (h0 : 0 ≤ i) (h1 : i < ys.length) (hl : ys.length ≤ 1000) (h : ∀ t', Q (.str (ys.getD i.toNat (Str.ofString "")) t') s)
    (hs : subscripted slice false (.ref D) (.int i ti) = operate [.ref D, .int i ti] (getItem (.ref D) (.int i ti)) := by with_unfolding_all rfl) :
    wpAny (model prog w) A (subscriptTail value slice (.ref D) (.int i ti)) Q E s := by
  have hls : s.heap.IsList D vs.toArray := ⟨_, (N _ hm).1, rfl, n, rfl⟩
  have hlen := strsAre_length hy
  have hi : i.toNat < vs.length := by omega
  obtain ⟨d, t, e, hd⟩ := strs_get hy i.toNat vs[i.toNat] (by simp [hi])
  refine tail_any hls.typeIs slot_list_getitem.lookup (wpAny_getItem_list hls h0 (by omega) (x := .str d t) (by simp [hi, e]) ?_) hs
  have : ys.getD i.toNat (Str.ofString "") = d := by rw [List.getD_eq_getElem?_getD, hd]; rfl
  rw [← this]; exact h t
theorem map_range_get (l : List Nat) (f : Nat → Str) : (List.range l.length).map (fun i => f (l.getD i 0)) = l.map f := by
  refine List.ext_getElem (by simp) fun i h1 h2 => ?_
  have hi : i < l.length := by simpa using h1
  simp [List.getD_eq_getElem?_getD, hi]
theorem sum_le (l : List Nat) (f : Nat → Str) (hf : ∀ c, (f c).length ≤ 3) : ((l.map f).map (·.length)).sum + (l.map f).length ≤ 4 * l.length := by
  induction l with
  | nil => simp
  | cons a r ih => have := hf a; simp at ih ⊢; omega
theorem reqF_sum (d : Int) : (((textF d).cps.toList.map figF).map (·.length)).sum + ((textF d).cps.toList.map figF).length ≤ 16 := by
  have h1 := sum_le (textF d).cps.toList figF figF_len
  have h2 := (textF_facts d).1
  have h3 : (textF d).cps.toList.length = (textF d).cps.size := Array.length_toList
  omega

theorem at_L1 : True := by w_top off; trivial
/-- a call of the def at f that may read the objects news of the caller's ledger; all objects that stood stand -/
noncomputable abbrev PureN (n : Nat) (w : World) (f : Addr) (vs : List Value) (news : List (Addr × Obj)) (R : Heap → Addr → Heap → Value → Prop) : Prop :=
  ∀ (mean : ExcName → Option Value) (mg mb : Str → Option Value) (dp un : Nat) (gd : Option (List Code)) (cn : Str) (cs : Scope) (a : Addr) (ccd : Value) (cl : List (Str × Addr)) (outer : List Env) (A₀ : Around) (base h₀ : Heap) (L : Addr) (m : Str → Option Value) (s : Shared) (Q E : Value → Shared → Prop),
    Below A₀ base outer h₀ → Fr h₀ L s.heap m → (Mine.hd.heap_39 w.params).In h₀ → Top Mine.view lse mean mg mb h₀ → cs.kind = .function →
    dp + n < recursionLimit → un + 8 * n < cLine → News h₀ L s.heap news → (∀ (v : Value) (h' : Heap) (tk' : Nat), Fr h₀ L h' m → s.heap.StaysIn h' → R h₀ L h' v → Q v { s with heap := h', toks := tk' }) →
      wpAny (model PySem.Challenge.rw_ny0294_01.row.prog w) (ktrTop dp un gd cn cs L a ccd cl outer) (call (.ref f) vs) Q E s
theorem stays_of {h g h' h₀ : Heap} {L L' : Addr} {m' : Str → Option Value} {news : List (Addr × Obj)} (G : GSub h g (news.map (·.1))) (N : News h₀ L h news) (F' : Fr g L' h' m') (N' : ∀ p ∈ news, h'.get? p.1 = some p.2) : h.StaysIn h' := by
  intro b o e
  by_cases hb : b ∈ news.map (·.1)
  · obtain ⟨p, hp, rfl⟩ := List.mem_map.mp hb
    have h1 := (N p hp).1
    rw [e] at h1; cases h1
    exact N' p hp
  · exact F'.keep _ _ (G b o e hb)
theorem PureN.use {n : Nat} {w : World} {f : Addr} {vs : List Value} {news : List (Addr × Obj)} {R : Heap → Addr → Heap → Value → Prop} (C : PureN n w f vs news R)
    {mean : ExcName → Option Value} {mg mb : Str → Option Value} {dp un : Nat} {gd : Option (List Code)} {cn : Str} {cs : Scope} {a : Addr} {ccd : Value} {cl : List (Str × Addr)} {outer : List Env} {A₀ : Around} {base h₀ : Heap} {L : Addr} {m : Str → Option Value} {s : Shared} {Q E : Value → Shared → Prop} {all : List (Addr × Obj)}
    (B : Below A₀ base outer h₀) (F : Fr h₀ L s.heap m) (X : (Mine.hd.heap_39 w.params).In h₀) (N : News h₀ L s.heap all) (T : Top Mine.view lse mean mg mb h₀) (hk : cs.kind = .function)
    (hd : dp + n < recursionLimit) (hu : un + 8 * n < cLine) (hsub : ∀ p ∈ news, p ∈ all) (ret : ∀ (v : Value) (h' : Heap) (tk' : Nat), Fr h₀ L h' m → News h₀ L h' all → R h₀ L h' v → Q v { s with heap := h', toks := tk' }) :
    wpAny (model PySem.Challenge.rw_ny0294_01.row.prog w) (ktrTop dp un gd cn cs L a ccd cl outer) (call (.ref f) vs) Q E s :=
  C mean mg mb dp un gd cn cs a ccd cl outer A₀ base h₀ L m s Q E B F X T hk hd hu (fun p hp => N p (hsub p hp)) fun v h' tk' F' st r => ret v h' tk' F' (fun p hp => ⟨st _ _ (N p hp).1, (N p hp).2⟩) r
section
variable {prog : Program} {w : World} {A₀ A : Around} {s : Shared} {base h₀ : Heap} {outer : List Env} {L : Addr} {m : Str → Option Value} {env : Env} {news : List (Addr × Obj)} {K : Frag} {p : Program} {loose : List Str} {mean : ExcName → Option Value} {mg mb : Str → Option Value}
  {R : Result → Shared → Prop} {name qual : Str} {params : Arguments} {body : List Stmt} {scope : Scope} {dV kV doc pm cdv ct oc : Value} {an od : Option Addr} {osl : Array (Option Value)} {f : Addr} {args : Args} {binds : List (Str × Value)}
/-- entry of a def with captured names that also says what stays -/
theorem enterC (B : Below A₀ base outer h₀) (F : Fr h₀ L s.heap m) (X₀ : K.In h₀) (N : News h₀ L s.heap news) (T : Top p loose mean mg mb h₀) (hA : A.frames = some (env :: outer)) (hf : env.frame = some L) (hke : env.scope.kind = .function)
    (ho : K.lookup f = some ⟨oc, od, .func (fnOf name qual params body scope dV kV doc pm an cdv ct), osl⟩) (hcd : codeIn K cdv qual = true) (hroom : A.depth < recursionLimit)
    (hbind : BindsTo s (fnOf name qual params body scope dV kV doc pm an cdv ct) args binds) (hkind : (binds.all fun y => scope.names.lookup y.1 == some .local || scope.names.lookup y.1 == some .cell) = true)
    (hnd : ((cellsFrom 0 scope.names []).map (·.1)).Nodup)
    (h : ∀ g L' h₁ tk cells, Fr h₀ L g m → Fr g L' h₁ (bindL (envOfC qual scope L' f cdv).kindOf binds fun _ => none) → News g L' h₁ (cells ++ news) →
      CellsAre (bindC (envOfC qual scope L' f cdv).kindOf binds fun _ => none) (cellsFrom (L' + 1) scope.names []) cells → Below A base (env :: outer) g → K.In g → Top p loose mean mg mb g → GSub s.heap g (news.map (·.1)) → (∀ p ∈ news, p.1 < L') →
      wpAny (model prog w) (A.deeper (envOfC qual scope L' f cdv)) (execs body (envOfC qual scope L' f cdv))
        (fun fl s' => LeaveK h₀ L m g R (match fl with | .ret v => v | _ => .none) s')
        (fun e s' => wpAny (model prog w) (A.deeper (envOfC qual scope L' f cdv)) (leaving (envOfC qual scope L' f cdv) e) (fun _ s'' => R (.error e) s'') (fun e' s'' => R (.error e') s'') s')
        { s with heap := h₁, toks := tk })
    (hco : scope.isCoroutine = false) (hgen : scope.isGenerator = false) (hk : scope.kind = .function) : codeAny (model prog w) A (.call (.ref f) args) R s := by
  obtain ⟨FG, BG, st, lv⟩ := groundX (R := R) B F N hA hf hke
  have X := X₀.keeps F.keep
  refine codeAny_call_function hroom (X _ _ ho) rfl hco hgen rfl (codeRec_of X hcd) (hbind _ _ _ _ ?_)
  refine wpAny_newFunctionEnv_cells hk (kindsX hkind _) fun env' he s' x => ?_
  subst he
  refine ⟨(T.nolimit.keeps F.keep).keeps x.toInCall.keep, codeAny_func ?_⟩
  obtain ⟨h₁, tk, rfl, _⟩ := x.done
  have hk₁ := x.toInCall.keep
  obtain ⟨cells, NC, Y⟩ := Cl.news (h₀ := s.heap) (Nat.le_refl _) fun n c hm => ⟨x.cell n c (lookup_of_mem_nodup (cellsFrom_names scope.names 0 (s.heap.objs.size + 1) [] [] rfl ▸ hnd) hm), x.above n c hm⟩
  refine wpAny_mono (h _ s.heap.objs.size h₁ tk cells FG ⟨x.toInCall.ns, fun b o e => hk₁ b o (of_hideAll _ e), Nat.le_of_eq (hideAll_size _ _)⟩ (fun q hq => ?_) Y BG (X₀.keeps st) (T.keeps st) (fun b o e n => hideAll_get _ e n) (fun q hq => Heap.lt_size (N q hq).1)) (fun fl s' hl => lv _ _ hl) fun _ _ y => y
  rcases List.mem_append.mp hq with hq | hq
  · refine ⟨(NC q hq).1, (NC q hq).2.1, ?_⟩
    cases e : (hideAll s.heap (news.map (·.1))).get? q.1 with
    | none => rfl
    | some o => have := of_hideAll _ e; rw [(NC q hq).2.2] at this; cases this
  · exact ⟨hk₁ _ _ (N q hq).1, Nat.ne_of_lt (Heap.lt_size (N q hq).1), hideAll_none _ (List.mem_map_of_mem hq)⟩
end
noncomputable def ReqSt (a : Addr) (rest : List (Addr × Obj)) (pre : List Int) (nx : List (Addr × Obj)) : Prop := ∃ us n, nx = (a, listOf us.toArray n) :: rest ∧ StrsAre us (baseL ++ pre.map reqF)
theorem req_fit (d : Int) : (Str.ofString "/").length + (Txt.join (Str.ofString "/") ((textF d).cps.toList.map figF)).length ≤ sizeLine := by
  have hj := join_le (sep := Str.ofString "/") (Nat.le_trans (reqF_sum d) (by decide)) (by decide)
  rw [sizeLine_eq]; have : (Str.ofString "/").length = 1 := rfl; omega
theorem news_tail {h₀ h : Heap} {L : Addr} {a : Addr × Obj} {r : List (Addr × Obj)} (N : News h₀ L h (a :: r)) : News h₀ L h r := fun p hp => N p (.tail _ hp)
theorem ints_length {vs : List Value} {ns : List Int} (h : IntsAre vs ns) : vs.length = ns.length := by
  induction h with
  | nil => rfl
  | cons n t _ ih => simp [ih]
section
local macro_rules | `(tactic| walk_at "exec For Name Name cons nil") => `(tactic| (k_here; refine Hold.out ?_))
local macro_rules | `(tactic| walk_at "pyIter ref") => `(tactic| (k_here; refine Hold.out ?_))
local macro_rules | `(tactic| walk_at "eval ListComp") => `(tactic| (k_here; refine Hold.out ?_))
local macro_rules | `(tactic| walk_at "call builtin:list.append") => `(tactic| (k_here; refine Hold.out ?_))
local macro_rules | `(tactic| walk_at "my pad") => `(tactic| fail)
local macro_rules | `(tactic| walk_at "my pad") => `(tactic| fail)
theorem requests_c (w : World) (l : Addr) (vs : List Value) (n : Nat) (ns : List Int) (hi : IntsAre vs ns) (hn : ns.length ≤ 4) : PureN 1 w 346 [.ref l] [(l, listOf vs.toArray n)] (fun h₀ L h' v => ∃ D vs' n', v = .ref D ∧ News h₀ L h' [(D, listOf vs'.toArray n')] ∧ StrsAre vs' (baseL ++ ns.map reqF)) := by
  ((intro mean9z mg9z mb9z dp9z un9z gd9z cn9z cs9z a9z ccd9z cl9z outer9z A₀9z base9z h₀9z L9z m9z s9z Q9z E9z B9z F9z X9z T9z hk9z hdp9z hun9z hN09z hret9z; have kM9z := kdMark; refine wpAny_call ?_; k_dflt (((refine' enterC ?k1 ?k2 ?k3 ?k4 ?k5 ?kA ?kF ?kK ?k6 ?k7 ?k8 ?k9 ?kB ?kD ?_ ?c2 ?c3 ?c4; (((case kA => exact rfl); (case kF => exact rfl); (case kK => first | exact rfl | assumption); (case k1 => k_asm); (case k2 => k_asm); (case k3 => k_asm); (try (case k4 => k_asm)); (case k5 => k_asm); (case k6 => k_is); (case k7 => k_is); (case k8 => ktr_room); (try (case k9 => first | exact BindsTo.of_eq rfl | (refine' kp_binds ?kx ?ke; (case kx => k_in); (case ke => exact fun _ => rfl)))))); (case kB => exact rfl); (case kD => decide +kernel); (((try (case c5 => decide)); (try (case kB => exact locs rfl)); (case c2 => exact rfl); (case c3 => exact rfl); (case c4 => exact rfl); k_whole)); intro g9z L9z h9z tk9z cells9z FG9z F9z N9z Y9z B9z X9z T9z GS9z l19z; (try k_lt l19z); k_cells Y9z; (try simp only [List.cons_append, List.nil_append] at N9z); (try dsimp only); (try k_lift B9z); (try k_fold))))))
  repeat' (first | (k_unfold; (try dsimp only)) | (k_end; wrow_close) | ((fail_if_success (with_reducible show wpAny _ _ _ _ _ _)); dsimp only) | with_reducible (k_here; (with_reducible show wpAny _ _ (binaryOp Operator.Add (Value.str _ _) (Value.str _ _)) _ _ _); k_dflt (refine addS (req_fit _) ?_); intro t99z k99z hl99z) | with_reducible (k_here; (with_reducible show wpAny _ _ (subscriptTail _ _ (Value.ref _) (Value.int (Int.fmod _ 9) _)) _ _ _); k_dflt (refine' itemL (ys := partsL) ?N ?m ?y ?i0 ?i1 ?l ?_ ?z; (case N => k_asm); (case m => k_mem); (case y => exact .cons _ _ (.cons _ _ (.cons _ _ (.cons _ _ (.cons _ _ (.cons _ _ (.cons _ _ (.cons _ _ (.cons _ _ .nil))))))))); (case i0 => exact Int.fmod_nonneg_of_pos _ (by decide)); (case i1 => exact Int.fmod_lt_of_pos _ (by decide)); (case l => decide); (case z => with_unfolding_all rfl); intro t99z)) | with_reducible (k_here; (with_reducible show wpAny _ _ (call (Value.type "int") [Value.str (Str.mk _) _]) _ _ _); k_dflt (refine int_digit (by assumption) ?_)) | with_reducible (k_here; (with_reducible show wpAny _ _ (call (Value.builtin "str.join") [Value.str _ _, Value.ref _]) _ _ _); (with_reducible rename StrsAre _ _ => hSt99z); k_dflt (refine' join_listW (ys := ?ys) ?k1 ?k2 ?k3 ?k4 ?_; (case k1 => exact News.isList (by k_asm) (by k_mem)); (case k2 => simpa using hSt99z); (case k3 => decide); (case k4 => first | omega | (simp only [] at *; omega))); intro t99z k99z) | walk1 | (dsimp only; walk1) | (leave1; walk_say "STEP leave1"; try dsimp only))
  unfold Hold
  (refine' For_invVF (m := ?mm) ?F ?k1 ?k2 ?_ ?hs ?hE; (case F => k_asm); (case k1 => exact rfl); (case k2 => exact rfl); (case hE => passes_own); (case hs => intro _; rfl); k_whole)
  repeat' (first | (k_unfold; (try dsimp only)) | (k_end; wrow_close) | ((fail_if_success (with_reducible show wpAny _ _ _ _ _ _)); dsimp only) | with_reducible (k_here; (with_reducible show wpAny _ _ (binaryOp Operator.Add (Value.str _ _) (Value.str _ _)) _ _ _); k_dflt (refine addS (req_fit _) ?_); intro t99z k99z hl99z) | with_reducible (k_here; (with_reducible show wpAny _ _ (subscriptTail _ _ (Value.ref _) (Value.int (Int.fmod _ 9) _)) _ _ _); k_dflt (refine' itemL (ys := partsL) ?N ?m ?y ?i0 ?i1 ?l ?_ ?z; (case N => k_asm); (case m => k_mem); (case y => exact .cons _ _ (.cons _ _ (.cons _ _ (.cons _ _ (.cons _ _ (.cons _ _ (.cons _ _ (.cons _ _ (.cons _ _ .nil))))))))); (case i0 => exact Int.fmod_nonneg_of_pos _ (by decide)); (case i1 => exact Int.fmod_lt_of_pos _ (by decide)); (case l => decide); (case z => with_unfolding_all rfl); intro t99z)) | with_reducible (k_here; (with_reducible show wpAny _ _ (call (Value.type "int") [Value.str (Str.mk _) _]) _ _ _); k_dflt (refine int_digit (by assumption) ?_)) | with_reducible (k_here; (with_reducible show wpAny _ _ (call (Value.builtin "str.join") [Value.str _ _, Value.ref _]) _ _ _); (with_reducible rename StrsAre _ _ => hSt99z); k_dflt (refine' join_listW (ys := ?ys) ?k1 ?k2 ?k3 ?k4 ?_; (case k1 => exact News.isList (by k_asm) (by k_mem)); (case k2 => simpa using hSt99z); (case k3 => decide); (case k4 => first | omega | (simp only [] at *; omega))); intro t99z k99z) | walk1 | (dsimp only; walk1) | (leave1; walk_say "STEP leave1"; try dsimp only))
  unfold Hold
  rename News _ _ _ _ => nN
  refine loopG (fun d t => Value.int d t) [] (ReqSt _ _) (ints_get hi) (ints_length hi) rfl (by k_asm) nN (by k_mem) ⟨_, _, rfl, .cons _ _ (.cons _ _ (.cons _ _ (.cons _ _ (.cons _ _ (.cons _ _ (.cons _ _ (.cons _ _ (.cons _ _ (.cons _ _ (.cons _ _ .nil))))))))))⟩ ?_ ?_
  · intro nx pre d post t u h tk own e hoff hln hI F' N'
    obtain ⟨us, n9, rfl, hI⟩ := hI
    simp only [List.cons_append, List.nil_append] at N'
    repeat' (first | (k_unfold; (try dsimp only)) | (k_end; wrow_close) | ((fail_if_success (with_reducible show wpAny _ _ _ _ _ _)); dsimp only) | with_reducible (k_here; (with_reducible show wpAny _ _ (binaryOp Operator.Add (Value.str _ _) (Value.str _ _)) _ _ _); k_dflt (refine addS (req_fit _) ?_); intro t99z k99z hl99z) | with_reducible (k_here; (with_reducible show wpAny _ _ (subscriptTail _ _ (Value.ref _) (Value.int (Int.fmod _ 9) _)) _ _ _); k_dflt (refine' itemL (ys := partsL) ?N ?m ?y ?i0 ?i1 ?l ?_ ?z; (case N => k_asm); (case m => k_mem); (case y => exact .cons _ _ (.cons _ _ (.cons _ _ (.cons _ _ (.cons _ _ (.cons _ _ (.cons _ _ (.cons _ _ (.cons _ _ .nil))))))))); (case i0 => exact Int.fmod_nonneg_of_pos _ (by decide)); (case i1 => exact Int.fmod_lt_of_pos _ (by decide)); (case l => decide); (case z => with_unfolding_all rfl); intro t99z)) | with_reducible (k_here; (with_reducible show wpAny _ _ (call (Value.type "int") [Value.str (Str.mk _) _]) _ _ _); k_dflt (refine int_digit (by assumption) ?_)) | with_reducible (k_here; (with_reducible show wpAny _ _ (call (Value.builtin "str.join") [Value.str _ _, Value.ref _]) _ _ _); (with_reducible rename StrsAre _ _ => hSt99z); k_dflt (refine' join_listW (ys := ?ys) ?k1 ?k2 ?k3 ?k4 ?_; (case k1 => exact News.isList (by k_asm) (by k_mem)); (case k2 => simpa using hSt99z); (case k3 => decide); (case k4 => first | omega | (simp only [] at *; omega))); intro t99z k99z) | walk1 | (dsimp only; walk1) | (leave1; walk_say "STEP leave1"; try dsimp only))
    unfold Hold
    refine' ListComp_S ?F ?hc ?h1 ?h2 ?h3 ?h4 ?_ ?h5
    case F => k_asm
    case hc => with_unfolding_all rfl
    case h1 => decide
    case h2 => rfl
    case h3 => decide
    case h4 => rfl
    case h5 => intro _; rfl
    repeat' (first | (k_unfold; (try dsimp only)) | (k_end; wrow_close) | ((fail_if_success (with_reducible show wpAny _ _ _ _ _ _)); dsimp only) | with_reducible (k_here; (with_reducible show wpAny _ _ (binaryOp Operator.Add (Value.str _ _) (Value.str _ _)) _ _ _); k_dflt (refine addS (req_fit _) ?_); intro t99z k99z hl99z) | with_reducible (k_here; (with_reducible show wpAny _ _ (subscriptTail _ _ (Value.ref _) (Value.int (Int.fmod _ 9) _)) _ _ _); k_dflt (refine' itemL (ys := partsL) ?N ?m ?y ?i0 ?i1 ?l ?_ ?z; (case N => k_asm); (case m => k_mem); (case y => exact .cons _ _ (.cons _ _ (.cons _ _ (.cons _ _ (.cons _ _ (.cons _ _ (.cons _ _ (.cons _ _ (.cons _ _ .nil))))))))); (case i0 => exact Int.fmod_nonneg_of_pos _ (by decide)); (case i1 => exact Int.fmod_lt_of_pos _ (by decide)); (case l => decide); (case z => with_unfolding_all rfl); intro t99z)) | with_reducible (k_here; (with_reducible show wpAny _ _ (call (Value.type "int") [Value.str (Str.mk _) _]) _ _ _); k_dflt (refine int_digit (by assumption) ?_)) | with_reducible (k_here; (with_reducible show wpAny _ _ (call (Value.builtin "str.join") [Value.str _ _, Value.ref _]) _ _ _); (with_reducible rename StrsAre _ _ => hSt99z); k_dflt (refine' join_listW (ys := ?ys) ?k1 ?k2 ?k3 ?k4 ?_; (case k1 => exact News.isList (by k_asm) (by k_mem)); (case k2 => simpa using hSt99z); (case k3 => decide); (case k4 => first | omega | (simp only [] at *; omega))); intro t99z k99z) | walk1 | (dsimp only; walk1) | (leave1; walk_say "STEP leave1"; try dsimp only))
    have htf := textF_facts d
    refine ⟨textF d, _, _, rfl, rfl, textF_ascii d, by k_asm, by k_asm, by omega, fun g => comp_map (fun i => figF ((textF d).cps.toList.getD i 0)) _ trivial ?_ ?_⟩
    · intro i v I oI C oC D m₂ h tk ys E' hi9 hP hC hx9 F' N' off ne
      obtain ⟨c, u9, hc, rfl⟩ := hP
      have hcd := textF_get hc
      have hce : (textF d).cps.toList.getD i 0 = c := by rw [List.getD_eq_getElem?_getD]; have : (textF d).cps.toList[i]? = some c := by simpa using hc
                                                         rw [this]; rfl
      rw [hce]
      repeat' (first | (k_unfold; (try dsimp only)) | (k_end; wrow_close) | ((fail_if_success (with_reducible show wpAny _ _ _ _ _ _)); dsimp only) | with_reducible (k_here; (with_reducible show wpAny _ _ (binaryOp Operator.Add (Value.str _ _) (Value.str _ _)) _ _ _); k_dflt (refine addS (req_fit _) ?_); intro t99z k99z hl99z) | with_reducible (k_here; (with_reducible show wpAny _ _ (subscriptTail _ _ (Value.ref _) (Value.int (Int.fmod _ 9) _)) _ _ _); k_dflt (refine' itemL (ys := partsL) ?N ?m ?y ?i0 ?i1 ?l ?_ ?z; (case N => k_asm); (case m => k_mem); (case y => exact .cons _ _ (.cons _ _ (.cons _ _ (.cons _ _ (.cons _ _ (.cons _ _ (.cons _ _ (.cons _ _ (.cons _ _ .nil))))))))); (case i0 => exact Int.fmod_nonneg_of_pos _ (by decide)); (case i1 => exact Int.fmod_lt_of_pos _ (by decide)); (case l => decide); (case z => with_unfolding_all rfl); intro t99z)) | with_reducible (k_here; (with_reducible show wpAny _ _ (call (Value.type "int") [Value.str (Str.mk _) _]) _ _ _); k_dflt (refine int_digit (by assumption) ?_)) | with_reducible (k_here; (with_reducible show wpAny _ _ (call (Value.builtin "str.join") [Value.str _ _, Value.ref _]) _ _ _); (with_reducible rename StrsAre _ _ => hSt99z); k_dflt (refine' join_listW (ys := ?ys) ?k1 ?k2 ?k3 ?k4 ?_; (case k1 => exact News.isList (by k_asm) (by k_mem)); (case k2 => simpa using hSt99z); (case k3 => decide); (case k4 => first | omega | (simp only [] at *; omega))); intro t99z k99z) | walk1 | (dsimp only; walk1) | (leave1; walk_say "STEP leave1"; try dsimp only))
      exact EltPost.mk (by assumption) (by assumption) (fun p hp => hp) rfl
    · intro ys hys D9 h9 tk9 F9 N9 o9
      have e9 := map_range_get (textF d).cps.toList figF
      rw [Array.length_toList] at e9
      rw [e9] at hys
      have hw := reqF_sum d
      have hul : us.length ≤ 100 := by have h1 := strsAre_length hI; have h2 := congrArg List.length e; rw [List.length_append, List.length_map] at h1; rw [List.length_append, List.length_cons] at h2; have h3 : baseL.length = 11 := rfl; omega
      repeat' (first | (k_unfold; (try dsimp only)) | (k_end; wrow_close) | ((fail_if_success (with_reducible show wpAny _ _ _ _ _ _)); dsimp only) | with_reducible (k_here; (with_reducible show wpAny _ _ (binaryOp Operator.Add (Value.str _ _) (Value.str _ _)) _ _ _); k_dflt (refine addS (req_fit _) ?_); intro t99z k99z hl99z) | with_reducible (k_here; (with_reducible show wpAny _ _ (subscriptTail _ _ (Value.ref _) (Value.int (Int.fmod _ 9) _)) _ _ _); k_dflt (refine' itemL (ys := partsL) ?N ?m ?y ?i0 ?i1 ?l ?_ ?z; (case N => k_asm); (case m => k_mem); (case y => exact .cons _ _ (.cons _ _ (.cons _ _ (.cons _ _ (.cons _ _ (.cons _ _ (.cons _ _ (.cons _ _ (.cons _ _ .nil))))))))); (case i0 => exact Int.fmod_nonneg_of_pos _ (by decide)); (case i1 => exact Int.fmod_lt_of_pos _ (by decide)); (case l => decide); (case z => with_unfolding_all rfl); intro t99z)) | with_reducible (k_here; (with_reducible show wpAny _ _ (call (Value.type "int") [Value.str (Str.mk _) _]) _ _ _); k_dflt (refine int_digit (by assumption) ?_)) | with_reducible (k_here; (with_reducible show wpAny _ _ (call (Value.builtin "str.join") [Value.str _ _, Value.ref _]) _ _ _); (with_reducible rename StrsAre _ _ => hSt99z); k_dflt (refine' join_listW (ys := ?ys) ?k1 ?k2 ?k3 ?k4 ?_; (case k1 => exact News.isList (by k_asm) (by k_mem)); (case k2 => simpa using hSt99z); (case k3 => decide); (case k4 => first | omega | (simp only [] at *; omega))); intro t99z k99z) | walk1 | (dsimp only; walk1) | (leave1; walk_say "STEP leave1"; try dsimp only))
      unfold Hold
      rename News _ _ _ _ => nN4
      rename (_ < _ ∧ _ < _ ∧ _ < _) => hl3
      refine append_K (by k_asm) (news_tail nN4) (Upd.head (List.forall_mem_cons.mpr ⟨Nat.ne_of_lt hl3.1, List.forall_mem_cons.mpr ⟨Nat.ne_of_lt hl3.2.1, List.forall_mem_cons.mpr ⟨Nat.ne_of_lt hl3.2.2, fun p hp => hoff p hp _ (.head _)⟩⟩⟩)) ?_ (by rw [List.size_toArray, sizeLine_eq]; omega)
      intro h8 F8 N8
      repeat' (first | (k_unfold; (try dsimp only)) | (k_end; wrow_close) | ((fail_if_success (with_reducible show wpAny _ _ _ _ _ _)); dsimp only) | with_reducible (k_here; (with_reducible show wpAny _ _ (binaryOp Operator.Add (Value.str _ _) (Value.str _ _)) _ _ _); k_dflt (refine addS (req_fit _) ?_); intro t99z k99z hl99z) | with_reducible (k_here; (with_reducible show wpAny _ _ (subscriptTail _ _ (Value.ref _) (Value.int (Int.fmod _ 9) _)) _ _ _); k_dflt (refine' itemL (ys := partsL) ?N ?m ?y ?i0 ?i1 ?l ?_ ?z; (case N => k_asm); (case m => k_mem); (case y => exact .cons _ _ (.cons _ _ (.cons _ _ (.cons _ _ (.cons _ _ (.cons _ _ (.cons _ _ (.cons _ _ (.cons _ _ .nil))))))))); (case i0 => exact Int.fmod_nonneg_of_pos _ (by decide)); (case i1 => exact Int.fmod_lt_of_pos _ (by decide)); (case l => decide); (case z => with_unfolding_all rfl); intro t99z)) | with_reducible (k_here; (with_reducible show wpAny _ _ (call (Value.type "int") [Value.str (Str.mk _) _]) _ _ _); k_dflt (refine int_digit (by assumption) ?_)) | with_reducible (k_here; (with_reducible show wpAny _ _ (call (Value.builtin "str.join") [Value.str _ _, Value.ref _]) _ _ _); (with_reducible rename StrsAre _ _ => hSt99z); k_dflt (refine' join_listW (ys := ?ys) ?k1 ?k2 ?k3 ?k4 ?_; (case k1 => exact News.isList (by k_asm) (by k_mem)); (case k2 => simpa using hSt99z); (case k3 => decide); (case k4 => first | omega | (simp only [] at *; omega))); intro t99z k99z) | walk1 | (dsimp only; walk1) | (leave1; walk_say "STEP leave1"; try dsimp only))
      all_goals (rename News _ _ _ _ => nN2; (try simp only [List.push_toArray] at nN2))
      refine endG _ ?ho (by assumption) nN2 (List.forall_mem_cons.mpr ⟨by k_mem, List.forall_mem_cons.mpr ⟨by k_mem, List.forall_mem_cons.mpr ⟨by k_mem, List.forall_mem_cons.mpr ⟨by k_mem, by intro _ h; cases h⟩⟩⟩⟩) (fun p hp => by repeat (first | exact hp | refine List.Mem.tail _ ?_)) (fun z h1 h2 => by simp only [h1, h2, if_false, Bool.false_eq_true]) (by k_mem) ⟨us ++ [Value.str (reqF d) _], n9 + 1, rfl, ?_⟩
      · exact hoff
      · rw [List.map_append, ← List.append_assoc]
        exact strs_snoc hI
  · intro nx u h tk hI F' N'
    obtain ⟨us, n9, rfl, hI⟩ := hI
    rename GSub _ _ _ => GS9
    repeat' (first | (k_unfold; (try dsimp only)) | (k_end; wrow_close) | ((fail_if_success (with_reducible show wpAny _ _ _ _ _ _)); dsimp only) | with_reducible (k_here; (with_reducible show wpAny _ _ (binaryOp Operator.Add (Value.str _ _) (Value.str _ _)) _ _ _); k_dflt (refine addS (req_fit _) ?_); intro t99z k99z hl99z) | with_reducible (k_here; (with_reducible show wpAny _ _ (subscriptTail _ _ (Value.ref _) (Value.int (Int.fmod _ 9) _)) _ _ _); k_dflt (refine' itemL (ys := partsL) ?N ?m ?y ?i0 ?i1 ?l ?_ ?z; (case N => k_asm); (case m => k_mem); (case y => exact .cons _ _ (.cons _ _ (.cons _ _ (.cons _ _ (.cons _ _ (.cons _ _ (.cons _ _ (.cons _ _ (.cons _ _ .nil))))))))); (case i0 => exact Int.fmod_nonneg_of_pos _ (by decide)); (case i1 => exact Int.fmod_lt_of_pos _ (by decide)); (case l => decide); (case z => with_unfolding_all rfl); intro t99z)) | with_reducible (k_here; (with_reducible show wpAny _ _ (call (Value.type "int") [Value.str (Str.mk _) _]) _ _ _); k_dflt (refine int_digit (by assumption) ?_)) | with_reducible (k_here; (with_reducible show wpAny _ _ (call (Value.builtin "str.join") [Value.str _ _, Value.ref _]) _ _ _); (with_reducible rename StrsAre _ _ => hSt99z); k_dflt (refine' join_listW (ys := ?ys) ?k1 ?k2 ?k3 ?k4 ?_; (case k1 => exact News.isList (by k_asm) (by k_mem)); (case k2 => simpa using hSt99z); (case k3 => decide); (case k4 => first | omega | (simp only [] at *; omega))); intro t99z k99z) | walk1 | (dsimp only; walk1) | (leave1; walk_say "STEP leave1"; try dsimp only))
    rename ∀ (v : Value) (h' : Heap) (tk' : Nat), _ => hRet
    refine hRet _ _ _ (by assumption) (stays_of GS9 (by assumption) F' fun p hp => ?_) ⟨_, _, n9, rfl, ?_, hI⟩
    · rw [List.mem_singleton.mp hp]; exact (N' _ (by k_mem)).1
    · rename News _ _ _ _ => nN3
      exact fun p hp => nN3 p (by rw [List.mem_singleton.mp hp]; k_mem)
end

theorem at_N1 : True := by w_top off; trivial
noncomputable def siteF (x : Str) : Option Int := (siteC.find? (fun p => p.1 == x)).map (·.2)
theorem lookup_tab (x : Str) : ∀ c : List (Str × Int), PySem.Spec.lookup (.str x) (tabD c) = ((c.find? (fun p => p.1 == x)).map (·.2)).map PyData.int
  | [] => rfl
  | (a, b) :: r => by
    have ih := lookup_tab x r
    have e : PySem.Spec.lookup (.str x) (tabD ((a, b) :: r)) = if PySem.Spec.same (.str a) (.str x) then some (.int b) else PySem.Spec.lookup (.str x) (tabD r) := by
      first | rfl | (show (match _ with | _ => _) = _; rfl)
    rw [e, ih, PyProof.V.same_str]
    by_cases h : a = x
    · simp [h, List.find?_cons]
    · simp [h, List.find?_cons]
theorem siteF_range {x : Str} {m : Int} (h : siteF x = some m) : 0 ≤ m ∧ m ≤ 65535 := by
  unfold siteF at h
  obtain ⟨p, hp, rfl⟩ := Option.map_eq_some_iff.mp h
  have hm := List.mem_of_find?_eq_some hp
  have : ∀ p ∈ siteC, 0 ≤ p.2 ∧ p.2 ≤ 65535 := by decide +kernel
  exact this p hm
theorem site_get {prog : Program} {w : World} {A : Around} {E : Value → Shared → Prop} {s : Shared} {D : Addr} {x : Str} {t : Tok} {Q : Value → Shared → Prop} (T : StrTab prog w s.heap D (tabD siteC)) (h0 : siteF x = none → Q .none { s with toks := s.toks + 1 })
    (h1 : ∀ m t', siteF x = some m → 0 ≤ m → m ≤ 65535 → Q (.int m t') { s with toks := s.toks + 1 }) : wpAny (model prog w) A (call (.builtin "dict.get") [.ref D, .str x t]) Q E s := by
  refine call_get1_strTab T fun v hv => ?_
  rw [lookup_tab] at hv
  cases e : siteF x with
  | none =>
    unfold siteF at e; rw [e] at hv
    have := PyProof.V.Flat.none_inv hv; subst this
    exact h0 e
  | some m =>
    have e' := e
    unfold siteF at e; rw [e] at hv
    obtain ⟨t', rfl⟩ := PyProof.V.Flat.int_inv hv
    exact h1 m t' e' (siteF_range e').1 (siteF_range e').2
/-- the values are tuples of two texts that lie in the ledger -/
inductive RowsIn (tups : List (Addr × Obj)) : List Value → List (Str × Str) → Prop
  | nil : RowsIn tups [] []
  | cons {T a b t u vs rows} : (T, tupObj [.str a t, .str b u]) ∈ tups → RowsIn tups vs rows → RowsIn tups (.ref T :: vs) ((a, b) :: rows)
theorem RowsIn.mono {tups tups' : List (Addr × Obj)} {vs : List Value} {rows : List (Str × Str)} (h : RowsIn tups vs rows) (hs : ∀ p ∈ tups, p ∈ tups') : RowsIn tups' vs rows := by
  induction h with
  | nil => exact .nil
  | cons hm _ ih => exact .cons (hs _ hm) ih
theorem RowsIn.snoc {tups : List (Addr × Obj)} {vs : List Value} {rows : List (Str × Str)} {T : Addr} {a b : Str} {t u : Tok} (h : RowsIn tups vs rows) (hm : (T, tupObj [.str a t, .str b u]) ∈ tups) : RowsIn tups (vs ++ [.ref T]) (rows ++ [(a, b)]) := by
  induction h with
  | nil => exact .cons hm .nil
  | cons hm' _ ih => exact .cons hm' ih
theorem RowsIn.length {tups : List (Addr × Obj)} {vs : List Value} {rows : List (Str × Str)} (h : RowsIn tups vs rows) : vs.length = rows.length := by
  induction h with
  | nil => rfl
  | cons _ _ ih => simp [ih]
noncomputable def DueSt (R l : Addr) (lo : Obj) (f : Str → List (Str × Str)) (pre : List Str) (nx : List (Addr × Obj)) : Prop := ∃ us n rest, nx = (R, listOf us.toArray n) :: (l, lo) :: rest ∧ (OwnOff rest [R, l] ∧ R ≠ l) ∧ RowsIn rest us (pre.flatMap f)
section
variable {prog : Program} {w : World} {A : Around} {E : Value → Shared → Prop} {s : Shared} {h₀ : Heap} {L R l T : Addr} {m : Str → Option Value}
theorem allLt_all {d : Nat} : ∀ {l : List (Addr × Obj)}, AllLt d l → ∀ p ∈ l, @LT.lt Nat _ p.1 d
  | [], _, _, h => nomatch h
  | _ :: _, x, p, h => by
    rcases List.mem_cons.mp h with rfl | h
    · exact x.1
    · exact allLt_all x.2 p h
noncomputable def LedOK (R l : Addr) (rest own : List (Addr × Obj)) : Prop := OwnOff rest [R, l] ∧ OwnOff own (R :: l :: rest.map (·.1)) ∧ R ≠ l
/-- rows.append of a new tuple, over an opaque rest of the ledger -/
theorem row_append {news rest own : List (Addr × Obj)} {us : List Value} {n : Nat} {lo : Obj} {a b : Str} {t u : Tok} {rows : List (Str × Str)} {Q : Value → Shared → Prop} (hL : LedOK R l rest own) (hI : RowsIn rest us rows) (F : Fr h₀ L s.heap m) (N : News h₀ L s.heap news) (hT : (T, { cls := .type "tuple", data := .seq #[.str a t, .str b u] }) ∈ news) (hR : (R, listOf us.toArray n) ∈ news) (hl : (l, lo) ∈ news) (hr : ∀ p ∈ rest ++ own, p ∈ news)
    (hlt : R < T ∧ l < T ∧ AllLt T (rest ++ own)) (hz : us.length ≤ 1000)
    (h : ∀ h' rest', Fr h₀ L h' m → News h₀ L h' ((R, listOf (us ++ [Value.ref T]).toArray (n + 1)) :: (l, lo) :: (rest' ++ own)) → LedOK R l rest' own → RowsIn rest' (us ++ [Value.ref T]) (rows ++ [(a, b)]) → Q .none { s with heap := h' }) :
    wpAny (model prog w) A (call (.builtin "list.append") [.ref R, .ref T]) Q E s := by
  obtain ⟨h1, h2, h3⟩ := hL
  have hall : ∀ p ∈ rest ++ own, p.1 ≠ T := fun p hp => Nat.ne_of_lt (allLt_all hlt.2.2 p hp)
  have N1 : News h₀ L s.heap ((R, listOf us.toArray n) :: (l, lo) :: (T, tupObj [.str a t, .str b u]) :: (rest ++ own)) := fun p hp => by
    rcases List.mem_cons.mp hp with rfl | hp
    · exact N _ hR
    · rcases List.mem_cons.mp hp with rfl | hp
      · exact N _ hl
      · rcases List.mem_cons.mp hp with rfl | hp
        · exact N _ hT
        · exact N _ (hr p hp)
  refine append_K F N1 (Upd.head (List.forall_mem_cons.mpr ⟨Ne.symm h3, List.forall_mem_cons.mpr ⟨Nat.ne_of_gt hlt.1, fun p hp => ?_⟩⟩)) (fun h' F' N' => h h' ((T, tupObj [.str a t, .str b u]) :: rest) F' (by rw [List.push_toArray] at N'; exact N') ⟨fun p hp b hb => ?_, fun p hp b hb => ?_, h3⟩ ((hI.mono fun p hp => .tail _ hp).snoc (.head _))) (by rw [List.size_toArray, sizeLine_eq]; omega)
  · rcases List.mem_append.mp hp with hp | hp
    · exact h1 p hp R (.head _)
    · exact h2 p hp R (.head _)
  · rcases List.mem_cons.mp hp with rfl | hp
    · rcases List.mem_cons.mp hb with rfl | hb
      · exact Nat.ne_of_gt hlt.1
      · rw [List.mem_singleton.mp hb]; exact Nat.ne_of_gt hlt.2.1
    · exact h1 p hp b hb
  · rcases List.mem_cons.mp hb with rfl | hb
    · exact h2 p hp _ (.head _)
    · rcases List.mem_cons.mp hb with rfl | hb
      · exact h2 p hp _ (.tail _ (.head _))
      · rcases List.mem_cons.mp hb with rfl | hb
        · exact hall p (List.mem_append_right _ hp)
        · exact h2 p hp b (.tail _ (.tail _ hb))
theorem due_end {x : Str} {lo : Obj} {m₀ m' : Str → Option Value} {stored : List Str} {f : Str → List (Str × Str)} {pre : List Str} {own news' rest : List (Addr × Obj)} {s₁ : Shared} {h' : Heap} {tk n : Nat} {us : List Value} {rows : List (Str × Str)} (hL : LedOK R l rest own) (hI : RowsIn rest us rows) (F : Fr h₀ L h' m') (N : News h₀ L h' news')
    (hR : (R, listOf us.toArray n) ∈ news') (hl : (l, lo) ∈ news') (hr : ∀ p ∈ rest ++ own, p ∈ news') (hm : ∀ z, z ≠ x → stored.contains z = false → m' z = m₀ z) (e : rows = pre.flatMap f) : InvEndG h₀ L (JG l lo x stored m₀ (DueSt R l lo f) pre) own s₁ { s₁ with heap := h', toks := tk } := by
  obtain ⟨h1, h2, h3⟩ := hL
  exact endG ((R, listOf us.toArray n) :: (l, lo) :: rest) h2 F N (List.forall_mem_cons.mpr ⟨hR, List.forall_mem_cons.mpr ⟨hl, fun p hp => hr p (List.mem_append_left _ hp)⟩⟩) (fun p hp => hr p (List.mem_append_right _ hp)) hm (.tail _ (.head _)) ⟨us, n, rest, rfl, ⟨h1, h3⟩, by rw [← e]; exact hI⟩
end
noncomputable def lastF (x : Str) : Str := ((Txt.split x (Str.ofString "/")).getLast?).getD (Str.ofString "")
noncomputable def escS (c : Nat) : Str := if (Builtin.Str.occurrences (Str.ofString "\"\\") ⟨#[c]⟩ 0 (Str.ofString "\"\\").length 1).isEmpty = true then ⟨#[c]⟩ else Str.ofString "\\" ++ ⟨#[c]⟩
noncomputable def nameF (x : Str) : Str := Txt.join (Str.ofString "") ((lastF x).cps.toList.map escS)
noncomputable def cdF (x : Str) : Str := Str.ofString "attachment; filename=\"" ++ nameF x ++ Str.ofString "\"; size-of=\"1 k\"; inline"
noncomputable def rowsD (d : Str) : List (Str × Str) :=
  (if plainF d ≠ d then [(Str.ofString "Location", plainF d)] else []) ++ (match siteF (plainF d) with
    | none => [(Str.ofString "Status", Str.ofString "404")]
    | some m => (Str.ofString "X-Mode", signsF m) :: (if m.fdiv 4096 = 8 ∧ (m.fdiv 4).fmod 2 = 1 then [(Str.ofString "Content-Disposition", cdF (plainF d))] else []))
theorem rows_a {d : Str} (hp : (plainF d != d) = true) (hs : siteF (plainF d) = none) : rowsD d = [(Str.ofString "Location", plainF d), (Str.ofString "Status", Str.ofString "404")] := by
  unfold rowsD; rw [if_pos (by simpa using hp), hs]; rfl
theorem rows_b {d : Str} (hp : (plainF d != d) = false) (hs : siteF (plainF d) = none) : rowsD d = [(Str.ofString "Status", Str.ofString "404")] := by
  unfold rowsD; rw [if_neg (by simpa using hp), hs]; rfl
theorem rows_c {d : Str} {m : Int} (hp : (plainF d != d) = true) (hs : siteF (plainF d) = some m) (hc : m.fdiv 4096 ≠ 8 ∨ (m.fdiv 4).fmod 2 ≠ 1) : rowsD d = [(Str.ofString "Location", plainF d), (Str.ofString "X-Mode", signsF m)] := by
  unfold rowsD; rw [if_pos (by simpa using hp), hs]
  show _ ++ (_ :: (if _ then _ else _)) = _
  rw [if_neg (fun hq => hc.elim (fun h => h hq.1) (fun h => h hq.2))]; rfl
theorem rows_d {d : Str} {m : Int} (hp : (plainF d != d) = false) (hs : siteF (plainF d) = some m) (hc : m.fdiv 4096 ≠ 8 ∨ (m.fdiv 4).fmod 2 ≠ 1) : rowsD d = [(Str.ofString "X-Mode", signsF m)] := by
  unfold rowsD; rw [if_neg (by simpa using hp), hs]
  show _ ++ (_ :: (if _ then _ else _)) = _
  rw [if_neg (fun hq => hc.elim (fun h => h hq.1) (fun h => h hq.2))]; rfl
theorem rows_e {d : Str} {m : Int} (hp : (plainF d != d) = true) (hs : siteF (plainF d) = some m) (h1 : m.fdiv 4096 = 8) (h2 : (m.fdiv 4).fmod 2 = 1) : rowsD d = [(Str.ofString "Location", plainF d), (Str.ofString "X-Mode", signsF m), (Str.ofString "Content-Disposition", cdF (plainF d))] := by
  unfold rowsD; rw [if_pos (by simpa using hp), hs]
  show _ ++ (_ :: (if _ then _ else _)) = _
  rw [if_pos ⟨h1, h2⟩]; rfl
theorem rows_f {d : Str} {m : Int} (hp : (plainF d != d) = false) (hs : siteF (plainF d) = some m) (h1 : m.fdiv 4096 = 8) (h2 : (m.fdiv 4).fmod 2 = 1) : rowsD d = [(Str.ofString "X-Mode", signsF m), (Str.ofString "Content-Disposition", cdF (plainF d))] := by
  unfold rowsD; rw [if_neg (by simpa using hp), hs]
  show _ ++ (_ :: (if _ then _ else _)) = _
  rw [if_pos ⟨h1, h2⟩]; rfl
theorem cont3 {a b c z : Str} (h : [a, b, c].contains z = false) : z ≠ a ∧ z ≠ b ∧ z ≠ c := by
  simp only [List.contains_cons, List.contains_nil, Bool.or_false, Bool.or_eq_false_iff, beq_eq_false_iff_ne, ne_eq] at h
  exact ⟨h.1, h.2.1, h.2.2⟩
theorem flat_snoc {f : Str → List (Str × Str)} {pre : List Str} {d : Str} {r : List (Str × Str)} (h : f d = r) : pre.flatMap f ++ r = (pre ++ [d]).flatMap f := by rw [List.flatMap_append, List.flatMap_cons, List.flatMap_nil, List.append_nil, h]
theorem plainF_len (d : Str) (hd : d.length ≤ 1000) : (plainF d).length ≤ 1003 := by
  unfold plainF
  rw [Str.length_append]
  have h1 : (aheadF d).length ≤ 2 := by unfold aheadF; split <;> decide
  have h2 := wt_plainL (Txt.split d (Str.ofString "/"))
  have h3 := wt_split d (Str.ofString "/") (by decide)
  by_cases hq : plainL (Txt.split d (Str.ofString "/")) = []
  · rw [hq]; have : (Txt.join (Str.ofString "/") []).length = 0 := rfl
    omega
  · have h4 := wt_join (Str.ofString "/") (by decide) _ hq
    have h5 : (Txt.join (Str.ofString "/") (plainL (Txt.split d (Str.ofString "/")))).length = (Str.join (Str.ofString "/") (plainL (Txt.split d (Str.ofString "/")))).length := by rw [← StrLaws.glued_eq_join]; rfl
    omega
theorem strsV (ls : List (Str × Tok)) : StrsAre (strValues ls) (ls.map (·.1)) := by
  induction ls with
  | nil => exact .nil
  | cons p r ih => exact .cons p.1 p.2 ih
theorem split_ne (x : Str) : Txt.split x (Str.ofString "/") ≠ [] := by
  intro h
  have e := StrLaws.join_split x (Str.ofString "/")
  rw [h] at e
  rw [← e] at h
  revert h; decide
theorem last_item {prog : Program} {w : World} {A : Around} {E : Value → Shared → Prop} {s : Shared} {h₀ : Heap} {L D : Addr} {news : List (Addr × Obj)} {value slice : Expr} {ls : List (Str × Tok)} {x : Str} {u : Tok} {n : Nat} {Q : Value → Shared → Prop} (N : News h₀ L s.heap news) (hm : (D, listOf (strValues ls).toArray n) ∈ news) (eS : ls.map (·.1) = Txt.split x (Str.ofString "/")) (hne : Txt.split x (Str.ofString "/") ≠ [])
    (h : ∀ t, Q (.str (lastF x) t) s) (hs : subscripted slice false (.ref D) (.int (-1) u) = operate [.ref D, .int (-1) u] (getItem (.ref D) (.int (-1) u)) := by with_unfolding_all rfl) :
    wpAny (model prog w) A (subscriptTail value slice (.ref D) (.int (-1) u)) Q E s := by
  refine txt_last N hm (strsV ls) ?_ (fun y t e => ?_) hs
  · rw [strs_nil (strsV ls), eS]
    cases e : Txt.split x (Str.ofString "/") with
    | nil => exact absurd e hne
    | cons a r => rfl
  · have : lastF x = y := by unfold lastF; rw [← eS, e]; rfl
    rw [← this]; exact h t
theorem escS_pos {c : Nat} (h : (Builtin.Str.occurrences (Str.ofString "\"\\") ⟨#[c]⟩ 0 (Str.ofString "\"\\").length 1).isEmpty = true) : (⟨#[c]⟩ : Str) = escS c := by unfold escS; rw [if_pos h]
theorem escS_neg {c : Nat} (h : (Builtin.Str.occurrences (Str.ofString "\"\\") ⟨#[c]⟩ 0 (Str.ofString "\"\\").length 1).isEmpty = false) : Str.ofString "\\" ++ (⟨#[c]⟩ : Str) = escS c := by unfold escS; rw [if_neg (by rw [h]; exact Bool.false_ne_true)]
theorem escS_len (c : Nat) : (escS c).length ≤ 2 := by
  unfold escS
  split
  · exact Nat.le_of_ble_eq_true rfl
  · rw [Str.length_append]; exact Nat.le_of_ble_eq_true rfl
theorem sum_le2 (l : List Nat) (f : Nat → Str) (hf : ∀ c, (f c).length ≤ 2) : ((l.map f).map (·.length)).sum + (l.map f).length ≤ 3 * l.length := by
  induction l with
  | nil => simp
  | cons a r ih => have := hf a; simp at ih ⊢; omega
theorem name_sum {x : Str} (h : (lastF x).cps.size ≤ 1000) : (((lastF x).cps.toList.map escS).map (·.length)).sum + ((lastF x).cps.toList.map escS).length ≤ 3000 := by
  have h1 := sum_le2 (lastF x).cps.toList escS escS_len
  have h3 : (lastF x).cps.toList.length = (lastF x).cps.size := Array.length_toList
  omega
theorem nameF_len {x : Str} (h : (lastF x).cps.size ≤ 1000) : (nameF x).length ≤ 2000000 := join_le (sep := Str.ofString "") (Nat.le_trans (name_sum h) (by decide)) (by decide)
theorem cd_fit1 {x : Str} (h : (nameF x).length ≤ 2000000) : (Str.ofString "attachment; filename=\"").length + (nameF x).length ≤ sizeLine := by
  rw [sizeLine_eq]; have : (Str.ofString "attachment; filename=\"").length = 22 := rfl; omega
theorem cd_fit2 {x : Str} (h : (nameF x).length ≤ 2000000) : (Str.ofString "attachment; filename=\"" ++ nameF x).length + (Str.ofString "\"; size-of=\"1 k\"; inline").length ≤ sizeLine := by
  rw [sizeLine_eq, Str.length_append]; have : (Str.ofString "attachment; filename=\"").length = 22 := rfl; have : (Str.ofString "\"; size-of=\"1 k\"; inline").length = 24 := rfl; omega
theorem rowsD_len (d : Str) : (rowsD d).length ≤ 3 := by
  unfold rowsD
  rw [List.length_append]
  have h1 : (if plainF d ≠ d then [(Str.ofString "Location", plainF d)] else []).length ≤ 1 := by split <;> simp
  have h2 : (match siteF (plainF d) with
    | none => [(Str.ofString "Status", Str.ofString "404")]
    | some m => (Str.ofString "X-Mode", signsF m) :: (if m.fdiv 4096 = 8 ∧ (m.fdiv 4).fmod 2 = 1 then [(Str.ofString "Content-Disposition", cdF (plainF d))] else [])).length ≤ 2 := by
    split
    · simp
    · rw [List.length_cons]; split <;> simp
  omega
theorem rows_len {f : Str → List (Str × Str)} (hf : ∀ d, (f d).length ≤ 3) : ∀ pre : List Str, (pre.flatMap f).length ≤ 3 * pre.length
  | [] => by simp
  | d :: r => by
    have h1 := rows_len hf r
    have h2 := hf d
    rw [List.flatMap_cons, List.length_append, List.length_cons]; omega

theorem at_N2 : True := by w_top off; trivial
theorem esc_fit (c : Nat) : (Str.ofString "\\").length + (⟨#[c]⟩ : Str).length ≤ sizeLine := by rw [sizeLine_eq]; exact Nat.le_of_ble_eq_true rfl
section
local macro_rules | `(tactic| walk_at "exec For Name Name cons nil") => `(tactic| (k_here; refine Hold.out ?_))
local macro_rules | `(tactic| walk_at "pyIter ref") => `(tactic| (k_here; refine Hold.out ?_))
local macro_rules | `(tactic| walk_at "eval ListComp") => `(tactic| (k_here; refine Hold.out ?_))
local macro_rules | `(tactic| walk_at "InvEndG") => `(tactic| refine Hold.out ?_)
local macro_rules | `(tactic| walk_at "my pad") => `(tactic| fail)
local macro_rules | `(tactic| walk_at "my pad") => `(tactic| fail)
local macro_rules | `(tactic| walk_at "my pad") => `(tactic| fail)
theorem due_c (w : World) (l : Addr) (vs : List Value) (n : Nat) (ds : List Str) (hi : StrsAre vs ds) (hn : ds.length ≤ 15) (hd : ∀ d ∈ ds, d.length ≤ 100) (ha : ∀ d ∈ ds, (lastF (plainF d)).cps.all (· < 128) = true ∧ (lastF (plainF d)).cps.size ≤ 1000) : PureN 2 w 379 [.ref l] [(l, listOf vs.toArray n)] (fun h₀ L h' v => ∃ R us n rest, v = .ref R ∧ News h₀ L h' ((R, listOf us.toArray n) :: rest) ∧ RowsIn rest us (ds.flatMap rowsD)) := by
  ((intro mean9z mg9z mb9z dp9z un9z gd9z cn9z cs9z a9z ccd9z cl9z outer9z A₀9z base9z h₀9z L9z m9z s9z Q9z E9z B9z F9z X9z T9z hk9z hdp9z hun9z hN09z hret9z; have kM9z := kdMark; refine wpAny_call ?_; k_dflt (((refine' code_defG ?k1 ?k2 ?k3 ?k4 ?k5 ?kA ?kF ?kK ?k6 ?k7 ?k8 ?k9 ?kB ?_ ?c2 ?c3 ?c4 ?c5; (((case kA => exact rfl); (case kF => exact rfl); (case kK => first | exact rfl | assumption); (case k1 => k_asm); (case k2 => k_asm); (case k3 => k_asm); (try (case k4 => k_asm)); (case k5 => k_asm); (case k6 => k_is); (case k7 => k_is); (case k8 => ktr_room); (try (case k9 => first | exact BindsTo.of_eq rfl | (refine' kp_binds ?kx ?ke; (case kx => k_in); (case ke => exact fun _ => rfl)))))); (((try (case c5 => decide)); (try (case kB => exact locs rfl)); (case c2 => exact rfl); (case c3 => exact rfl); (case c4 => exact rfl); k_whole)); intro g9z L9z h9z FG9z F9z N9z B9z X9z T9z GS9z; (try dsimp only); (try k_lift B9z); (try k_fold))))))
  repeat' (first | (k_unfold; (try dsimp only)) | (k_end; wrow_close) | ((fail_if_success (with_reducible show wpAny _ _ _ _ _ _)); dsimp only) | with_reducible (k_here; (with_reducible show wpAny _ _ (call (Value.builtin "list.append") [Value.ref _, Value.ref _]) _ _ _); (rename LedOK _ _ _ _ => hL99z); (rename RowsIn _ _ _ => hI99z); (rename (_ < _ ∧ _ < _ ∧ _ < _ ∧ _ < _ ∧ AllLt _ _) => hlt89z); (have hlt99z := hlt89z.2.2); k_dflt (refine' row_append hL99z hI99z ?F ?N ?hT ?hR ?hl ?hr hlt99z ?z ?_; (case F => k_asm); (case N => k_asm); (case hT => k_mem); (case hR => k_mem); (case hl => k_mem); (case hr => exact fun p hp => by repeat (first | exact hp | refine List.Mem.tail _ ?_)); (case z => first | omega | (simp only [List.length_append, List.length_cons, List.length_nil]; omega))); clear hL99z hI99z hlt99z hlt89z; intro h9z rest9z F9z N9z hL99z hI99z) | with_reducible (k_here; (with_reducible show wpAny _ _ (binaryOp Operator.Add (Value.str _ _) (Value.str _ _)) _ _ _); k_dflt (refine addS (by first | with_reducible assumption | with_reducible exact esc_fit _) ?_); intro t99z k99z hl99z) | with_reducible (k_here; (with_reducible show wpAny _ _ (subscriptTail _ _ (Value.ref _) (Value.int _ _)) _ _ _); (rename (_ = Txt.split _ _) => eS99z); k_dflt (refine' last_item ?N ?m eS99z (split_ne _) ?_ ?z; (case N => k_asm); (case m => k_mem); (case z => with_unfolding_all rfl)); intro t99z) | with_reducible (k_here; (with_reducible show wpAny _ _ (call (Value.builtin "list.append") [Value.ref _, Value.ref _]) _ _ _); (rename LedOK _ _ _ _ => hL99z); (rename RowsIn _ _ _ => hI99z); (rename (_ < _ ∧ _ < _ ∧ AllLt _ _) => hlt99z); k_dflt (refine' row_append hL99z hI99z ?F ?N ?hT ?hR ?hl ?hr hlt99z ?z ?_; (case F => k_asm); (case N => k_asm); (case hT => k_mem); (case hR => k_mem); (case hl => k_mem); (case hr => exact fun p hp => by repeat (first | exact hp | refine List.Mem.tail _ ?_)); (case z => first | omega | (simp only [List.length_append, List.length_cons, List.length_nil]; omega))); clear hL99z hI99z hlt99z; intro h9z rest9z F9z N9z hL99z hI99z) | with_reducible (k_here; (with_reducible show wpAny _ _ (call (Value.ref 374) [Value.int _ _]) _ _ _); k_dflt (refine' Pure.use (signs_c _ _ _ ?kx ?ky) ?k1 ?k2 ?k3 ?k4 ?k5 ?kK ?kd ?ku trivial ?_; (case kx => assumption); (case ky => assumption); (((case k1 => k_asm); (case k2 => k_asm); (case k3 => k_asm); (case k4 => k_asm); (case k5 => k_asm); (case kK => first | exact rfl | assumption); (case kd => ktr_room); (case ku => ktr_units)))); intro v99z h99z tk99z F99z N99z e99z; (obtain ⟨t99z, e99z⟩ := e99z); (cases e99z); (try dsimp only); (try k_fold)) | with_reducible (k_here; (with_reducible show wpAny _ _ (call (Value.ref 367) [Value.str _ _]) _ _ _); k_dflt (refine' Pure.use (plain_c _ _ _ ?kx) ?k1 ?k2 ?k3 ?k4 ?k5 ?kK ?kd ?ku trivial ?_; (case kx => walk_at "my len"); (((case k1 => k_asm); (case k2 => k_asm); (case k3 => k_asm); (case k4 => k_asm); (case k5 => k_asm); (case kK => first | exact rfl | assumption); (case kd => ktr_room); (case ku => ktr_units)))); intro v99z h99z tk99z F99z N99z e99z; (obtain ⟨t99z, e99z⟩ := e99z); (cases e99z); (try dsimp only); (try k_fold)) | with_reducible (k_here; (with_reducible show wpAny _ _ (call (Value.builtin "dict.get") [Value.ref _, Value.str _ _]) _ _ _); k_dflt (refine site_get (by assumption) ?_ ?_); first | (intro m99z t99z hm99z hm09z hm19z) | (intro hm99z)) | with_reducible (k_here; (with_reducible show wpAny _ _ (getMethod (Value.ref _) (Str.ofString "get") _) _ _ _); k_dflt (refine getMethod_strTab_get (by assumption) ?_)) | with_reducible (k_here; (with_reducible show wpAny _ _ (call (Value.ref 341) _) _ _ _); k_dflt (refine' Pure.use (site_c _) ?k1 ?k2 ?k3 ?k4 ?k5 ?kK ?kd ?ku trivial ?_; (((case k1 => k_asm); (case k2 => k_asm); (case k3 => k_asm); (case k4 => k_asm); (case k5 => k_asm); (case kK => first | exact rfl | assumption); (case kd => ktr_room); (case ku => ktr_units)))); intro v99z h99z tk99z F99z N99z e99z; (obtain ⟨D99z, e99z, n99z, T99z⟩ := e99z); (cases e99z); (clear n99z); (try dsimp only); (try k_fold)) | with_reducible (k_here; (with_reducible show wpAny _ _ (call (Value.builtin "str.join") [Value.str _ _, Value.ref _]) _ _ _); (with_reducible rename StrsAre _ _ => hSt99z); k_dflt (refine' join_listW (ys := ?ys) ?k1 ?k2 ?k3 ?k4 ?_; (case k1 => exact News.isList (by k_asm) (by k_mem)); (case k2 => simpa using hSt99z); (case k3 => decide); (case k4 => first | omega | (simp only [] at *; omega))); intro t99z k99z) | with_reducible (k_here; (with_reducible show wpAny _ _ (call (Value.builtin "str.split") _) _ _ _); refine KSpl.split1 (by k_asm) (by k_asm) (by decide) ?_ (by (first | exact split_fits (by assumption) | exact split_fits (Nat.le_trans (restOf_le _) (by assumption)))); intro D9z l9z h9z k9z e9z a9z F9z N9z l19z; (try k_lt l19z)) | walk1 | (dsimp only; walk1) | (leave1; walk_say "STEP leave1"; try dsimp only))
  unfold Hold
  (refine' For_invVF (m := ?mm) ?F ?k1 ?k2 ?_ ?hs ?hE; (case F => k_asm); (case k1 => exact rfl); (case k2 => exact rfl); (case hE => passes_own); (case hs => intro _; rfl); k_whole)
  repeat' (first | (k_unfold; (try dsimp only)) | (k_end; wrow_close) | ((fail_if_success (with_reducible show wpAny _ _ _ _ _ _)); dsimp only) | with_reducible (k_here; (with_reducible show wpAny _ _ (call (Value.builtin "list.append") [Value.ref _, Value.ref _]) _ _ _); (rename LedOK _ _ _ _ => hL99z); (rename RowsIn _ _ _ => hI99z); (rename (_ < _ ∧ _ < _ ∧ _ < _ ∧ _ < _ ∧ AllLt _ _) => hlt89z); (have hlt99z := hlt89z.2.2); k_dflt (refine' row_append hL99z hI99z ?F ?N ?hT ?hR ?hl ?hr hlt99z ?z ?_; (case F => k_asm); (case N => k_asm); (case hT => k_mem); (case hR => k_mem); (case hl => k_mem); (case hr => exact fun p hp => by repeat (first | exact hp | refine List.Mem.tail _ ?_)); (case z => first | omega | (simp only [List.length_append, List.length_cons, List.length_nil]; omega))); clear hL99z hI99z hlt99z hlt89z; intro h9z rest9z F9z N9z hL99z hI99z) | with_reducible (k_here; (with_reducible show wpAny _ _ (binaryOp Operator.Add (Value.str _ _) (Value.str _ _)) _ _ _); k_dflt (refine addS (by first | with_reducible assumption | with_reducible exact esc_fit _) ?_); intro t99z k99z hl99z) | with_reducible (k_here; (with_reducible show wpAny _ _ (subscriptTail _ _ (Value.ref _) (Value.int _ _)) _ _ _); (rename (_ = Txt.split _ _) => eS99z); k_dflt (refine' last_item ?N ?m eS99z (split_ne _) ?_ ?z; (case N => k_asm); (case m => k_mem); (case z => with_unfolding_all rfl)); intro t99z) | with_reducible (k_here; (with_reducible show wpAny _ _ (call (Value.builtin "list.append") [Value.ref _, Value.ref _]) _ _ _); (rename LedOK _ _ _ _ => hL99z); (rename RowsIn _ _ _ => hI99z); (rename (_ < _ ∧ _ < _ ∧ AllLt _ _) => hlt99z); k_dflt (refine' row_append hL99z hI99z ?F ?N ?hT ?hR ?hl ?hr hlt99z ?z ?_; (case F => k_asm); (case N => k_asm); (case hT => k_mem); (case hR => k_mem); (case hl => k_mem); (case hr => exact fun p hp => by repeat (first | exact hp | refine List.Mem.tail _ ?_)); (case z => first | omega | (simp only [List.length_append, List.length_cons, List.length_nil]; omega))); clear hL99z hI99z hlt99z; intro h9z rest9z F9z N9z hL99z hI99z) | with_reducible (k_here; (with_reducible show wpAny _ _ (call (Value.ref 374) [Value.int _ _]) _ _ _); k_dflt (refine' Pure.use (signs_c _ _ _ ?kx ?ky) ?k1 ?k2 ?k3 ?k4 ?k5 ?kK ?kd ?ku trivial ?_; (case kx => assumption); (case ky => assumption); (((case k1 => k_asm); (case k2 => k_asm); (case k3 => k_asm); (case k4 => k_asm); (case k5 => k_asm); (case kK => first | exact rfl | assumption); (case kd => ktr_room); (case ku => ktr_units)))); intro v99z h99z tk99z F99z N99z e99z; (obtain ⟨t99z, e99z⟩ := e99z); (cases e99z); (try dsimp only); (try k_fold)) | with_reducible (k_here; (with_reducible show wpAny _ _ (call (Value.ref 367) [Value.str _ _]) _ _ _); k_dflt (refine' Pure.use (plain_c _ _ _ ?kx) ?k1 ?k2 ?k3 ?k4 ?k5 ?kK ?kd ?ku trivial ?_; (case kx => walk_at "my len"); (((case k1 => k_asm); (case k2 => k_asm); (case k3 => k_asm); (case k4 => k_asm); (case k5 => k_asm); (case kK => first | exact rfl | assumption); (case kd => ktr_room); (case ku => ktr_units)))); intro v99z h99z tk99z F99z N99z e99z; (obtain ⟨t99z, e99z⟩ := e99z); (cases e99z); (try dsimp only); (try k_fold)) | with_reducible (k_here; (with_reducible show wpAny _ _ (call (Value.builtin "dict.get") [Value.ref _, Value.str _ _]) _ _ _); k_dflt (refine site_get (by assumption) ?_ ?_); first | (intro m99z t99z hm99z hm09z hm19z) | (intro hm99z)) | with_reducible (k_here; (with_reducible show wpAny _ _ (getMethod (Value.ref _) (Str.ofString "get") _) _ _ _); k_dflt (refine getMethod_strTab_get (by assumption) ?_)) | with_reducible (k_here; (with_reducible show wpAny _ _ (call (Value.ref 341) _) _ _ _); k_dflt (refine' Pure.use (site_c _) ?k1 ?k2 ?k3 ?k4 ?k5 ?kK ?kd ?ku trivial ?_; (((case k1 => k_asm); (case k2 => k_asm); (case k3 => k_asm); (case k4 => k_asm); (case k5 => k_asm); (case kK => first | exact rfl | assumption); (case kd => ktr_room); (case ku => ktr_units)))); intro v99z h99z tk99z F99z N99z e99z; (obtain ⟨D99z, e99z, n99z, T99z⟩ := e99z); (cases e99z); (clear n99z); (try dsimp only); (try k_fold)) | with_reducible (k_here; (with_reducible show wpAny _ _ (call (Value.builtin "str.join") [Value.str _ _, Value.ref _]) _ _ _); (with_reducible rename StrsAre _ _ => hSt99z); k_dflt (refine' join_listW (ys := ?ys) ?k1 ?k2 ?k3 ?k4 ?_; (case k1 => exact News.isList (by k_asm) (by k_mem)); (case k2 => simpa using hSt99z); (case k3 => decide); (case k4 => first | omega | (simp only [] at *; omega))); intro t99z k99z) | with_reducible (k_here; (with_reducible show wpAny _ _ (call (Value.builtin "str.split") _) _ _ _); refine KSpl.split1 (by k_asm) (by k_asm) (by decide) ?_ (by (first | exact split_fits (by assumption) | exact split_fits (Nat.le_trans (restOf_le _) (by assumption)))); intro D9z l9z h9z k9z e9z a9z F9z N9z l19z; (try k_lt l19z)) | walk1 | (dsimp only; walk1) | (leave1; walk_say "STEP leave1"; try dsimp only))
  unfold Hold
  rename News _ _ _ _ => nN
  refine loopG (fun d t => Value.str d t) [Str.ofString "plain", Str.ofString "mode", Str.ofString "name"] (DueSt _ _ _ rowsD) (strs_get hi) (strsAre_length hi) rfl (by k_asm) nN (by k_mem) ⟨_, _, [], rfl, ⟨(by intro _ h; cases h), Nat.ne_of_gt (by assumption)⟩, .nil⟩ ?_ ?_
  · intro nx pre d post t u h tk own e hoff hln hI F' N'
    obtain ⟨us, n9, rest, rfl, ho9, hI⟩ := hI
    simp only [List.cons_append] at N'
    have hdl := hd d (by rw [e]; simp)
    have hda := ha d (by rw [e]; simp)
    have hL : LedOK _ _ rest own := ⟨ho9.1, hoff, ho9.2⟩
    have hul : us.length ≤ 100 := by have h1 := hI.length; have h2 := rows_len rowsD_len pre; have h3 := congrArg List.length e; rw [List.length_append, List.length_cons] at h3; omega
    clear hoff ho9 hln
    have hpl : (plainF d).length ≤ 100000 := Nat.le_trans (plainF_len d (Nat.le_trans hdl (by decide))) (by decide)
    repeat' (first | (k_unfold; (try dsimp only)) | (k_end; wrow_close) | ((fail_if_success (with_reducible show wpAny _ _ _ _ _ _)); dsimp only) | with_reducible (k_here; (with_reducible show wpAny _ _ (call (Value.builtin "list.append") [Value.ref _, Value.ref _]) _ _ _); (rename LedOK _ _ _ _ => hL99z); (rename RowsIn _ _ _ => hI99z); (rename (_ < _ ∧ _ < _ ∧ _ < _ ∧ _ < _ ∧ AllLt _ _) => hlt89z); (have hlt99z := hlt89z.2.2); k_dflt (refine' row_append hL99z hI99z ?F ?N ?hT ?hR ?hl ?hr hlt99z ?z ?_; (case F => k_asm); (case N => k_asm); (case hT => k_mem); (case hR => k_mem); (case hl => k_mem); (case hr => exact fun p hp => by repeat (first | exact hp | refine List.Mem.tail _ ?_)); (case z => first | omega | (simp only [List.length_append, List.length_cons, List.length_nil]; omega))); clear hL99z hI99z hlt99z hlt89z; intro h9z rest9z F9z N9z hL99z hI99z) | with_reducible (k_here; (with_reducible show wpAny _ _ (binaryOp Operator.Add (Value.str _ _) (Value.str _ _)) _ _ _); k_dflt (refine addS (by first | with_reducible assumption | with_reducible exact esc_fit _) ?_); intro t99z k99z hl99z) | with_reducible (k_here; (with_reducible show wpAny _ _ (subscriptTail _ _ (Value.ref _) (Value.int _ _)) _ _ _); (rename (_ = Txt.split _ _) => eS99z); k_dflt (refine' last_item ?N ?m eS99z (split_ne _) ?_ ?z; (case N => k_asm); (case m => k_mem); (case z => with_unfolding_all rfl)); intro t99z) | with_reducible (k_here; (with_reducible show wpAny _ _ (call (Value.builtin "list.append") [Value.ref _, Value.ref _]) _ _ _); (rename LedOK _ _ _ _ => hL99z); (rename RowsIn _ _ _ => hI99z); (rename (_ < _ ∧ _ < _ ∧ AllLt _ _) => hlt99z); k_dflt (refine' row_append hL99z hI99z ?F ?N ?hT ?hR ?hl ?hr hlt99z ?z ?_; (case F => k_asm); (case N => k_asm); (case hT => k_mem); (case hR => k_mem); (case hl => k_mem); (case hr => exact fun p hp => by repeat (first | exact hp | refine List.Mem.tail _ ?_)); (case z => first | omega | (simp only [List.length_append, List.length_cons, List.length_nil]; omega))); clear hL99z hI99z hlt99z; intro h9z rest9z F9z N9z hL99z hI99z) | with_reducible (k_here; (with_reducible show wpAny _ _ (call (Value.ref 374) [Value.int _ _]) _ _ _); k_dflt (refine' Pure.use (signs_c _ _ _ ?kx ?ky) ?k1 ?k2 ?k3 ?k4 ?k5 ?kK ?kd ?ku trivial ?_; (case kx => assumption); (case ky => assumption); (((case k1 => k_asm); (case k2 => k_asm); (case k3 => k_asm); (case k4 => k_asm); (case k5 => k_asm); (case kK => first | exact rfl | assumption); (case kd => ktr_room); (case ku => ktr_units)))); intro v99z h99z tk99z F99z N99z e99z; (obtain ⟨t99z, e99z⟩ := e99z); (cases e99z); (try dsimp only); (try k_fold)) | with_reducible (k_here; (with_reducible show wpAny _ _ (call (Value.ref 367) [Value.str _ _]) _ _ _); k_dflt (refine' Pure.use (plain_c _ _ _ ?kx) ?k1 ?k2 ?k3 ?k4 ?k5 ?kK ?kd ?ku trivial ?_; (case kx => walk_at "my len"); (((case k1 => k_asm); (case k2 => k_asm); (case k3 => k_asm); (case k4 => k_asm); (case k5 => k_asm); (case kK => first | exact rfl | assumption); (case kd => ktr_room); (case ku => ktr_units)))); intro v99z h99z tk99z F99z N99z e99z; (obtain ⟨t99z, e99z⟩ := e99z); (cases e99z); (try dsimp only); (try k_fold)) | with_reducible (k_here; (with_reducible show wpAny _ _ (call (Value.builtin "dict.get") [Value.ref _, Value.str _ _]) _ _ _); k_dflt (refine site_get (by assumption) ?_ ?_); first | (intro m99z t99z hm99z hm09z hm19z) | (intro hm99z)) | with_reducible (k_here; (with_reducible show wpAny _ _ (getMethod (Value.ref _) (Str.ofString "get") _) _ _ _); k_dflt (refine getMethod_strTab_get (by assumption) ?_)) | with_reducible (k_here; (with_reducible show wpAny _ _ (call (Value.ref 341) _) _ _ _); k_dflt (refine' Pure.use (site_c _) ?k1 ?k2 ?k3 ?k4 ?k5 ?kK ?kd ?ku trivial ?_; (((case k1 => k_asm); (case k2 => k_asm); (case k3 => k_asm); (case k4 => k_asm); (case k5 => k_asm); (case kK => first | exact rfl | assumption); (case kd => ktr_room); (case ku => ktr_units)))); intro v99z h99z tk99z F99z N99z e99z; (obtain ⟨D99z, e99z, n99z, T99z⟩ := e99z); (cases e99z); (clear n99z); (try dsimp only); (try k_fold)) | with_reducible (k_here; (with_reducible show wpAny _ _ (call (Value.builtin "str.join") [Value.str _ _, Value.ref _]) _ _ _); (with_reducible rename StrsAre _ _ => hSt99z); k_dflt (refine' join_listW (ys := ?ys) ?k1 ?k2 ?k3 ?k4 ?_; (case k1 => exact News.isList (by k_asm) (by k_mem)); (case k2 => simpa using hSt99z); (case k3 => decide); (case k4 => first | omega | (simp only [] at *; omega))); intro t99z k99z) | with_reducible (k_here; (with_reducible show wpAny _ _ (call (Value.builtin "str.split") _) _ _ _); refine KSpl.split1 (by k_asm) (by k_asm) (by decide) ?_ (by (first | exact split_fits (by assumption) | exact split_fits (Nat.le_trans (restOf_le _) (by assumption)))); intro D9z l9z h9z k9z e9z a9z F9z N9z l19z; (try k_lt l19z)) | walk1 | (dsimp only; walk1) | (leave1; walk_say "STEP leave1"; try dsimp only))
    all_goals unfold Hold
    all_goals try ((with_reducible show InvEndG _ _ _ _ _ _); (rename LedOK _ _ _ _ => hL9); (rename RowsIn _ _ _ => hI9); (rename News _ _ _ _ => nN9); refine due_end hL9 hI9 (by assumption) nN9 (by k_mem) (by k_mem) (fun p hp => by repeat (first | exact hp | refine List.Mem.tail _ ?_)) (fun z h1 h2 => by have h3 := cont3 h2; simp only [h1, h2, h3.1, h3.2.1, h3.2.2, if_false, Bool.false_eq_true]) ?_; (try simp only [List.append_assoc, List.cons_append, List.nil_append]); refine flat_snoc ?_; first | exact rows_a (by assumption) (by assumption) | exact rows_b (by assumption) (by assumption) | exact rows_c (by assumption) (by assumption) (.inl (by assumption)) | exact rows_c (by assumption) (by assumption) (.inr (by assumption)) | exact rows_d (by assumption) (by assumption) (.inl (by assumption)) | exact rows_d (by assumption) (by assumption) (.inr (by assumption)))
    all_goals (refine' ListComp_S ?F ?hc ?h1 ?h2 ?h3 ?h4 ?_ ?h5; (case F => k_asm); (case hc => with_unfolding_all rfl); (case h1 => decide); (case h2 => rfl); (case h3 => decide); (case h4 => rfl); (case h5 => intro _; rfl))
    all_goals (repeat' (first | (k_unfold; (try dsimp only)) | (k_end; wrow_close) | ((fail_if_success (with_reducible show wpAny _ _ _ _ _ _)); dsimp only) | with_reducible (k_here; (with_reducible show wpAny _ _ (call (Value.builtin "list.append") [Value.ref _, Value.ref _]) _ _ _); (rename LedOK _ _ _ _ => hL99z); (rename RowsIn _ _ _ => hI99z); (rename (_ < _ ∧ _ < _ ∧ _ < _ ∧ _ < _ ∧ AllLt _ _) => hlt89z); (have hlt99z := hlt89z.2.2); k_dflt (refine' row_append hL99z hI99z ?F ?N ?hT ?hR ?hl ?hr hlt99z ?z ?_; (case F => k_asm); (case N => k_asm); (case hT => k_mem); (case hR => k_mem); (case hl => k_mem); (case hr => exact fun p hp => by repeat (first | exact hp | refine List.Mem.tail _ ?_)); (case z => first | omega | (simp only [List.length_append, List.length_cons, List.length_nil]; omega))); clear hL99z hI99z hlt99z hlt89z; intro h9z rest9z F9z N9z hL99z hI99z) | with_reducible (k_here; (with_reducible show wpAny _ _ (binaryOp Operator.Add (Value.str _ _) (Value.str _ _)) _ _ _); k_dflt (refine addS (by first | with_reducible assumption | with_reducible exact esc_fit _) ?_); intro t99z k99z hl99z) | with_reducible (k_here; (with_reducible show wpAny _ _ (subscriptTail _ _ (Value.ref _) (Value.int _ _)) _ _ _); (rename (_ = Txt.split _ _) => eS99z); k_dflt (refine' last_item ?N ?m eS99z (split_ne _) ?_ ?z; (case N => k_asm); (case m => k_mem); (case z => with_unfolding_all rfl)); intro t99z) | with_reducible (k_here; (with_reducible show wpAny _ _ (call (Value.builtin "list.append") [Value.ref _, Value.ref _]) _ _ _); (rename LedOK _ _ _ _ => hL99z); (rename RowsIn _ _ _ => hI99z); (rename (_ < _ ∧ _ < _ ∧ AllLt _ _) => hlt99z); k_dflt (refine' row_append hL99z hI99z ?F ?N ?hT ?hR ?hl ?hr hlt99z ?z ?_; (case F => k_asm); (case N => k_asm); (case hT => k_mem); (case hR => k_mem); (case hl => k_mem); (case hr => exact fun p hp => by repeat (first | exact hp | refine List.Mem.tail _ ?_)); (case z => first | omega | (simp only [List.length_append, List.length_cons, List.length_nil]; omega))); clear hL99z hI99z hlt99z; intro h9z rest9z F9z N9z hL99z hI99z) | with_reducible (k_here; (with_reducible show wpAny _ _ (call (Value.ref 374) [Value.int _ _]) _ _ _); k_dflt (refine' Pure.use (signs_c _ _ _ ?kx ?ky) ?k1 ?k2 ?k3 ?k4 ?k5 ?kK ?kd ?ku trivial ?_; (case kx => assumption); (case ky => assumption); (((case k1 => k_asm); (case k2 => k_asm); (case k3 => k_asm); (case k4 => k_asm); (case k5 => k_asm); (case kK => first | exact rfl | assumption); (case kd => ktr_room); (case ku => ktr_units)))); intro v99z h99z tk99z F99z N99z e99z; (obtain ⟨t99z, e99z⟩ := e99z); (cases e99z); (try dsimp only); (try k_fold)) | with_reducible (k_here; (with_reducible show wpAny _ _ (call (Value.ref 367) [Value.str _ _]) _ _ _); k_dflt (refine' Pure.use (plain_c _ _ _ ?kx) ?k1 ?k2 ?k3 ?k4 ?k5 ?kK ?kd ?ku trivial ?_; (case kx => walk_at "my len"); (((case k1 => k_asm); (case k2 => k_asm); (case k3 => k_asm); (case k4 => k_asm); (case k5 => k_asm); (case kK => first | exact rfl | assumption); (case kd => ktr_room); (case ku => ktr_units)))); intro v99z h99z tk99z F99z N99z e99z; (obtain ⟨t99z, e99z⟩ := e99z); (cases e99z); (try dsimp only); (try k_fold)) | with_reducible (k_here; (with_reducible show wpAny _ _ (call (Value.builtin "dict.get") [Value.ref _, Value.str _ _]) _ _ _); k_dflt (refine site_get (by assumption) ?_ ?_); first | (intro m99z t99z hm99z hm09z hm19z) | (intro hm99z)) | with_reducible (k_here; (with_reducible show wpAny _ _ (getMethod (Value.ref _) (Str.ofString "get") _) _ _ _); k_dflt (refine getMethod_strTab_get (by assumption) ?_)) | with_reducible (k_here; (with_reducible show wpAny _ _ (call (Value.ref 341) _) _ _ _); k_dflt (refine' Pure.use (site_c _) ?k1 ?k2 ?k3 ?k4 ?k5 ?kK ?kd ?ku trivial ?_; (((case k1 => k_asm); (case k2 => k_asm); (case k3 => k_asm); (case k4 => k_asm); (case k5 => k_asm); (case kK => first | exact rfl | assumption); (case kd => ktr_room); (case ku => ktr_units)))); intro v99z h99z tk99z F99z N99z e99z; (obtain ⟨D99z, e99z, n99z, T99z⟩ := e99z); (cases e99z); (clear n99z); (try dsimp only); (try k_fold)) | with_reducible (k_here; (with_reducible show wpAny _ _ (call (Value.builtin "str.join") [Value.str _ _, Value.ref _]) _ _ _); (with_reducible rename StrsAre _ _ => hSt99z); k_dflt (refine' join_listW (ys := ?ys) ?k1 ?k2 ?k3 ?k4 ?_; (case k1 => exact News.isList (by k_asm) (by k_mem)); (case k2 => simpa using hSt99z); (case k3 => decide); (case k4 => first | omega | (simp only [] at *; omega))); intro t99z k99z) | with_reducible (k_here; (with_reducible show wpAny _ _ (call (Value.builtin "str.split") _) _ _ _); refine KSpl.split1 (by k_asm) (by k_asm) (by decide) ?_ (by (first | exact split_fits (by assumption) | exact split_fits (Nat.le_trans (restOf_le _) (by assumption)))); intro D9z l9z h9z k9z e9z a9z F9z N9z l19z; (try k_lt l19z)) | walk1 | (dsimp only; walk1) | (leave1; walk_say "STEP leave1"; try dsimp only)))
    all_goals
      refine ⟨lastF (plainF d), _, _, rfl, rfl, hda.1, by k_asm, by k_asm, hda.2, fun g => comp_map (fun i => escS ((lastF (plainF d)).cps.toList.getD i 0)) _ trivial ?_ ?_⟩
      · intro i v I oI C oC D m₂ h tk ys E' hi9 hP hC hx9 F' N' off ne
        obtain ⟨c, u9, hc, rfl⟩ := hP
        have hce : (lastF (plainF d)).cps.toList.getD i 0 = c := by rw [List.getD_eq_getElem?_getD]; have : (lastF (plainF d)).cps.toList[i]? = some c := by simpa using hc
                                                                    rw [this]; rfl
        rw [hce]
        repeat' (first | (k_unfold; (try dsimp only)) | (k_end; wrow_close) | ((fail_if_success (with_reducible show wpAny _ _ _ _ _ _)); dsimp only) | with_reducible (k_here; (with_reducible show wpAny _ _ (call (Value.builtin "list.append") [Value.ref _, Value.ref _]) _ _ _); (rename LedOK _ _ _ _ => hL99z); (rename RowsIn _ _ _ => hI99z); (rename (_ < _ ∧ _ < _ ∧ _ < _ ∧ _ < _ ∧ AllLt _ _) => hlt89z); (have hlt99z := hlt89z.2.2); k_dflt (refine' row_append hL99z hI99z ?F ?N ?hT ?hR ?hl ?hr hlt99z ?z ?_; (case F => k_asm); (case N => k_asm); (case hT => k_mem); (case hR => k_mem); (case hl => k_mem); (case hr => exact fun p hp => by repeat (first | exact hp | refine List.Mem.tail _ ?_)); (case z => first | omega | (simp only [List.length_append, List.length_cons, List.length_nil]; omega))); clear hL99z hI99z hlt99z hlt89z; intro h9z rest9z F9z N9z hL99z hI99z) | with_reducible (k_here; (with_reducible show wpAny _ _ (binaryOp Operator.Add (Value.str _ _) (Value.str _ _)) _ _ _); k_dflt (refine addS (by first | with_reducible assumption | with_reducible exact esc_fit _) ?_); intro t99z k99z hl99z) | with_reducible (k_here; (with_reducible show wpAny _ _ (subscriptTail _ _ (Value.ref _) (Value.int _ _)) _ _ _); (rename (_ = Txt.split _ _) => eS99z); k_dflt (refine' last_item ?N ?m eS99z (split_ne _) ?_ ?z; (case N => k_asm); (case m => k_mem); (case z => with_unfolding_all rfl)); intro t99z) | with_reducible (k_here; (with_reducible show wpAny _ _ (call (Value.builtin "list.append") [Value.ref _, Value.ref _]) _ _ _); (rename LedOK _ _ _ _ => hL99z); (rename RowsIn _ _ _ => hI99z); (rename (_ < _ ∧ _ < _ ∧ AllLt _ _) => hlt99z); k_dflt (refine' row_append hL99z hI99z ?F ?N ?hT ?hR ?hl ?hr hlt99z ?z ?_; (case F => k_asm); (case N => k_asm); (case hT => k_mem); (case hR => k_mem); (case hl => k_mem); (case hr => exact fun p hp => by repeat (first | exact hp | refine List.Mem.tail _ ?_)); (case z => first | omega | (simp only [List.length_append, List.length_cons, List.length_nil]; omega))); clear hL99z hI99z hlt99z; intro h9z rest9z F9z N9z hL99z hI99z) | with_reducible (k_here; (with_reducible show wpAny _ _ (call (Value.ref 374) [Value.int _ _]) _ _ _); k_dflt (refine' Pure.use (signs_c _ _ _ ?kx ?ky) ?k1 ?k2 ?k3 ?k4 ?k5 ?kK ?kd ?ku trivial ?_; (case kx => assumption); (case ky => assumption); (((case k1 => k_asm); (case k2 => k_asm); (case k3 => k_asm); (case k4 => k_asm); (case k5 => k_asm); (case kK => first | exact rfl | assumption); (case kd => ktr_room); (case ku => ktr_units)))); intro v99z h99z tk99z F99z N99z e99z; (obtain ⟨t99z, e99z⟩ := e99z); (cases e99z); (try dsimp only); (try k_fold)) | with_reducible (k_here; (with_reducible show wpAny _ _ (call (Value.ref 367) [Value.str _ _]) _ _ _); k_dflt (refine' Pure.use (plain_c _ _ _ ?kx) ?k1 ?k2 ?k3 ?k4 ?k5 ?kK ?kd ?ku trivial ?_; (case kx => walk_at "my len"); (((case k1 => k_asm); (case k2 => k_asm); (case k3 => k_asm); (case k4 => k_asm); (case k5 => k_asm); (case kK => first | exact rfl | assumption); (case kd => ktr_room); (case ku => ktr_units)))); intro v99z h99z tk99z F99z N99z e99z; (obtain ⟨t99z, e99z⟩ := e99z); (cases e99z); (try dsimp only); (try k_fold)) | with_reducible (k_here; (with_reducible show wpAny _ _ (call (Value.builtin "dict.get") [Value.ref _, Value.str _ _]) _ _ _); k_dflt (refine site_get (by assumption) ?_ ?_); first | (intro m99z t99z hm99z hm09z hm19z) | (intro hm99z)) | with_reducible (k_here; (with_reducible show wpAny _ _ (getMethod (Value.ref _) (Str.ofString "get") _) _ _ _); k_dflt (refine getMethod_strTab_get (by assumption) ?_)) | with_reducible (k_here; (with_reducible show wpAny _ _ (call (Value.ref 341) _) _ _ _); k_dflt (refine' Pure.use (site_c _) ?k1 ?k2 ?k3 ?k4 ?k5 ?kK ?kd ?ku trivial ?_; (((case k1 => k_asm); (case k2 => k_asm); (case k3 => k_asm); (case k4 => k_asm); (case k5 => k_asm); (case kK => first | exact rfl | assumption); (case kd => ktr_room); (case ku => ktr_units)))); intro v99z h99z tk99z F99z N99z e99z; (obtain ⟨D99z, e99z, n99z, T99z⟩ := e99z); (cases e99z); (clear n99z); (try dsimp only); (try k_fold)) | with_reducible (k_here; (with_reducible show wpAny _ _ (call (Value.builtin "str.join") [Value.str _ _, Value.ref _]) _ _ _); (with_reducible rename StrsAre _ _ => hSt99z); k_dflt (refine' join_listW (ys := ?ys) ?k1 ?k2 ?k3 ?k4 ?_; (case k1 => exact News.isList (by k_asm) (by k_mem)); (case k2 => simpa using hSt99z); (case k3 => decide); (case k4 => first | omega | (simp only [] at *; omega))); intro t99z k99z) | with_reducible (k_here; (with_reducible show wpAny _ _ (call (Value.builtin "str.split") _) _ _ _); refine KSpl.split1 (by k_asm) (by k_asm) (by decide) ?_ (by (first | exact split_fits (by assumption) | exact split_fits (Nat.le_trans (restOf_le _) (by assumption)))); intro D9z l9z h9z k9z e9z a9z F9z N9z l19z; (try k_lt l19z)) | walk1 | (dsimp only; walk1) | (leave1; walk_say "STEP leave1"; try dsimp only))
        all_goals (refine EltPost.mk (by with_reducible assumption) (by with_reducible assumption) (fun p hp => hp) ?_; first | exact escS_pos (by with_reducible assumption) | exact escS_neg (by with_reducible assumption))
      · intro ys hys D9 h9 tk9 F9 N9 o9
        have e9 := map_range_get (lastF (plainF d)).cps.toList escS
        rw [Array.length_toList] at e9
        rw [e9] at hys
        have hw := name_sum hda.2
        have hnl := nameF_len hda.2
        have hf1 := cd_fit1 hnl
        have hf2 := cd_fit2 hnl
        unfold nameF at hf1 hf2
        repeat' (first | (k_unfold; (try dsimp only)) | (k_end; wrow_close) | ((fail_if_success (with_reducible show wpAny _ _ _ _ _ _)); dsimp only) | with_reducible (k_here; (with_reducible show wpAny _ _ (call (Value.builtin "list.append") [Value.ref _, Value.ref _]) _ _ _); (rename LedOK _ _ _ _ => hL99z); (rename RowsIn _ _ _ => hI99z); (rename (_ < _ ∧ _ < _ ∧ _ < _ ∧ _ < _ ∧ AllLt _ _) => hlt89z); (have hlt99z := hlt89z.2.2); k_dflt (refine' row_append hL99z hI99z ?F ?N ?hT ?hR ?hl ?hr hlt99z ?z ?_; (case F => k_asm); (case N => k_asm); (case hT => k_mem); (case hR => k_mem); (case hl => k_mem); (case hr => exact fun p hp => by repeat (first | exact hp | refine List.Mem.tail _ ?_)); (case z => first | omega | (simp only [List.length_append, List.length_cons, List.length_nil]; omega))); clear hL99z hI99z hlt99z hlt89z; intro h9z rest9z F9z N9z hL99z hI99z) | with_reducible (k_here; (with_reducible show wpAny _ _ (binaryOp Operator.Add (Value.str _ _) (Value.str _ _)) _ _ _); k_dflt (refine addS (by first | with_reducible assumption | with_reducible exact esc_fit _) ?_); intro t99z k99z hl99z) | with_reducible (k_here; (with_reducible show wpAny _ _ (subscriptTail _ _ (Value.ref _) (Value.int _ _)) _ _ _); (rename (_ = Txt.split _ _) => eS99z); k_dflt (refine' last_item ?N ?m eS99z (split_ne _) ?_ ?z; (case N => k_asm); (case m => k_mem); (case z => with_unfolding_all rfl)); intro t99z) | with_reducible (k_here; (with_reducible show wpAny _ _ (call (Value.builtin "list.append") [Value.ref _, Value.ref _]) _ _ _); (rename LedOK _ _ _ _ => hL99z); (rename RowsIn _ _ _ => hI99z); (rename (_ < _ ∧ _ < _ ∧ AllLt _ _) => hlt99z); k_dflt (refine' row_append hL99z hI99z ?F ?N ?hT ?hR ?hl ?hr hlt99z ?z ?_; (case F => k_asm); (case N => k_asm); (case hT => k_mem); (case hR => k_mem); (case hl => k_mem); (case hr => exact fun p hp => by repeat (first | exact hp | refine List.Mem.tail _ ?_)); (case z => first | omega | (simp only [List.length_append, List.length_cons, List.length_nil]; omega))); clear hL99z hI99z hlt99z; intro h9z rest9z F9z N9z hL99z hI99z) | with_reducible (k_here; (with_reducible show wpAny _ _ (call (Value.ref 374) [Value.int _ _]) _ _ _); k_dflt (refine' Pure.use (signs_c _ _ _ ?kx ?ky) ?k1 ?k2 ?k3 ?k4 ?k5 ?kK ?kd ?ku trivial ?_; (case kx => assumption); (case ky => assumption); (((case k1 => k_asm); (case k2 => k_asm); (case k3 => k_asm); (case k4 => k_asm); (case k5 => k_asm); (case kK => first | exact rfl | assumption); (case kd => ktr_room); (case ku => ktr_units)))); intro v99z h99z tk99z F99z N99z e99z; (obtain ⟨t99z, e99z⟩ := e99z); (cases e99z); (try dsimp only); (try k_fold)) | with_reducible (k_here; (with_reducible show wpAny _ _ (call (Value.ref 367) [Value.str _ _]) _ _ _); k_dflt (refine' Pure.use (plain_c _ _ _ ?kx) ?k1 ?k2 ?k3 ?k4 ?k5 ?kK ?kd ?ku trivial ?_; (case kx => walk_at "my len"); (((case k1 => k_asm); (case k2 => k_asm); (case k3 => k_asm); (case k4 => k_asm); (case k5 => k_asm); (case kK => first | exact rfl | assumption); (case kd => ktr_room); (case ku => ktr_units)))); intro v99z h99z tk99z F99z N99z e99z; (obtain ⟨t99z, e99z⟩ := e99z); (cases e99z); (try dsimp only); (try k_fold)) | with_reducible (k_here; (with_reducible show wpAny _ _ (call (Value.builtin "dict.get") [Value.ref _, Value.str _ _]) _ _ _); k_dflt (refine site_get (by assumption) ?_ ?_); first | (intro m99z t99z hm99z hm09z hm19z) | (intro hm99z)) | with_reducible (k_here; (with_reducible show wpAny _ _ (getMethod (Value.ref _) (Str.ofString "get") _) _ _ _); k_dflt (refine getMethod_strTab_get (by assumption) ?_)) | with_reducible (k_here; (with_reducible show wpAny _ _ (call (Value.ref 341) _) _ _ _); k_dflt (refine' Pure.use (site_c _) ?k1 ?k2 ?k3 ?k4 ?k5 ?kK ?kd ?ku trivial ?_; (((case k1 => k_asm); (case k2 => k_asm); (case k3 => k_asm); (case k4 => k_asm); (case k5 => k_asm); (case kK => first | exact rfl | assumption); (case kd => ktr_room); (case ku => ktr_units)))); intro v99z h99z tk99z F99z N99z e99z; (obtain ⟨D99z, e99z, n99z, T99z⟩ := e99z); (cases e99z); (clear n99z); (try dsimp only); (try k_fold)) | with_reducible (k_here; (with_reducible show wpAny _ _ (call (Value.builtin "str.join") [Value.str _ _, Value.ref _]) _ _ _); (with_reducible rename StrsAre _ _ => hSt99z); k_dflt (refine' join_listW (ys := ?ys) ?k1 ?k2 ?k3 ?k4 ?_; (case k1 => exact News.isList (by k_asm) (by k_mem)); (case k2 => simpa using hSt99z); (case k3 => decide); (case k4 => first | omega | (simp only [] at *; omega))); intro t99z k99z) | with_reducible (k_here; (with_reducible show wpAny _ _ (call (Value.builtin "str.split") _) _ _ _); refine KSpl.split1 (by k_asm) (by k_asm) (by decide) ?_ (by (first | exact split_fits (by assumption) | exact split_fits (Nat.le_trans (restOf_le _) (by assumption)))); intro D9z l9z h9z k9z e9z a9z F9z N9z l19z; (try k_lt l19z)) | walk1 | (dsimp only; walk1) | (leave1; walk_say "STEP leave1"; try dsimp only))
        all_goals unfold Hold
        all_goals ((with_reducible show InvEndG _ _ _ _ _ _); (rename LedOK _ _ _ _ => hL9); (rename RowsIn _ _ _ => hI9); (rename News _ _ _ _ => nN9); refine due_end hL9 hI9 (by assumption) nN9 (by k_mem) (by k_mem) (fun p hp => by repeat (first | exact hp | refine List.Mem.tail _ ?_)) (fun z h1 h2 => by have h3 := cont3 h2; simp only [h1, h2, h3.1, h3.2.1, h3.2.2, if_false, Bool.false_eq_true]) ?_; (try simp only [List.append_assoc, List.cons_append, List.nil_append]); refine flat_snoc ?_)
        all_goals (first | (have hrw := rows_e (by with_reducible assumption) (by with_reducible assumption) (by with_reducible assumption) (by with_reducible assumption)) | (have hrw := rows_f (by with_reducible assumption) (by with_reducible assumption) (by with_reducible assumption) (by with_reducible assumption)))
        all_goals (unfold cdF nameF at hrw; with_reducible exact hrw)
  · intro nx u h tk hI F' N'
    obtain ⟨us, n9, rest, rfl, ho9, hI⟩ := hI
    rename GSub _ _ _ => GS9
    repeat' (first | (k_unfold; (try dsimp only)) | (k_end; wrow_close) | ((fail_if_success (with_reducible show wpAny _ _ _ _ _ _)); dsimp only) | with_reducible (k_here; (with_reducible show wpAny _ _ (call (Value.builtin "list.append") [Value.ref _, Value.ref _]) _ _ _); (rename LedOK _ _ _ _ => hL99z); (rename RowsIn _ _ _ => hI99z); (rename (_ < _ ∧ _ < _ ∧ _ < _ ∧ _ < _ ∧ AllLt _ _) => hlt89z); (have hlt99z := hlt89z.2.2); k_dflt (refine' row_append hL99z hI99z ?F ?N ?hT ?hR ?hl ?hr hlt99z ?z ?_; (case F => k_asm); (case N => k_asm); (case hT => k_mem); (case hR => k_mem); (case hl => k_mem); (case hr => exact fun p hp => by repeat (first | exact hp | refine List.Mem.tail _ ?_)); (case z => first | omega | (simp only [List.length_append, List.length_cons, List.length_nil]; omega))); clear hL99z hI99z hlt99z hlt89z; intro h9z rest9z F9z N9z hL99z hI99z) | with_reducible (k_here; (with_reducible show wpAny _ _ (binaryOp Operator.Add (Value.str _ _) (Value.str _ _)) _ _ _); k_dflt (refine addS (by first | with_reducible assumption | with_reducible exact esc_fit _) ?_); intro t99z k99z hl99z) | with_reducible (k_here; (with_reducible show wpAny _ _ (subscriptTail _ _ (Value.ref _) (Value.int _ _)) _ _ _); (rename (_ = Txt.split _ _) => eS99z); k_dflt (refine' last_item ?N ?m eS99z (split_ne _) ?_ ?z; (case N => k_asm); (case m => k_mem); (case z => with_unfolding_all rfl)); intro t99z) | with_reducible (k_here; (with_reducible show wpAny _ _ (call (Value.builtin "list.append") [Value.ref _, Value.ref _]) _ _ _); (rename LedOK _ _ _ _ => hL99z); (rename RowsIn _ _ _ => hI99z); (rename (_ < _ ∧ _ < _ ∧ AllLt _ _) => hlt99z); k_dflt (refine' row_append hL99z hI99z ?F ?N ?hT ?hR ?hl ?hr hlt99z ?z ?_; (case F => k_asm); (case N => k_asm); (case hT => k_mem); (case hR => k_mem); (case hl => k_mem); (case hr => exact fun p hp => by repeat (first | exact hp | refine List.Mem.tail _ ?_)); (case z => first | omega | (simp only [List.length_append, List.length_cons, List.length_nil]; omega))); clear hL99z hI99z hlt99z; intro h9z rest9z F9z N9z hL99z hI99z) | with_reducible (k_here; (with_reducible show wpAny _ _ (call (Value.ref 374) [Value.int _ _]) _ _ _); k_dflt (refine' Pure.use (signs_c _ _ _ ?kx ?ky) ?k1 ?k2 ?k3 ?k4 ?k5 ?kK ?kd ?ku trivial ?_; (case kx => assumption); (case ky => assumption); (((case k1 => k_asm); (case k2 => k_asm); (case k3 => k_asm); (case k4 => k_asm); (case k5 => k_asm); (case kK => first | exact rfl | assumption); (case kd => ktr_room); (case ku => ktr_units)))); intro v99z h99z tk99z F99z N99z e99z; (obtain ⟨t99z, e99z⟩ := e99z); (cases e99z); (try dsimp only); (try k_fold)) | with_reducible (k_here; (with_reducible show wpAny _ _ (call (Value.ref 367) [Value.str _ _]) _ _ _); k_dflt (refine' Pure.use (plain_c _ _ _ ?kx) ?k1 ?k2 ?k3 ?k4 ?k5 ?kK ?kd ?ku trivial ?_; (case kx => walk_at "my len"); (((case k1 => k_asm); (case k2 => k_asm); (case k3 => k_asm); (case k4 => k_asm); (case k5 => k_asm); (case kK => first | exact rfl | assumption); (case kd => ktr_room); (case ku => ktr_units)))); intro v99z h99z tk99z F99z N99z e99z; (obtain ⟨t99z, e99z⟩ := e99z); (cases e99z); (try dsimp only); (try k_fold)) | with_reducible (k_here; (with_reducible show wpAny _ _ (call (Value.builtin "dict.get") [Value.ref _, Value.str _ _]) _ _ _); k_dflt (refine site_get (by assumption) ?_ ?_); first | (intro m99z t99z hm99z hm09z hm19z) | (intro hm99z)) | with_reducible (k_here; (with_reducible show wpAny _ _ (getMethod (Value.ref _) (Str.ofString "get") _) _ _ _); k_dflt (refine getMethod_strTab_get (by assumption) ?_)) | with_reducible (k_here; (with_reducible show wpAny _ _ (call (Value.ref 341) _) _ _ _); k_dflt (refine' Pure.use (site_c _) ?k1 ?k2 ?k3 ?k4 ?k5 ?kK ?kd ?ku trivial ?_; (((case k1 => k_asm); (case k2 => k_asm); (case k3 => k_asm); (case k4 => k_asm); (case k5 => k_asm); (case kK => first | exact rfl | assumption); (case kd => ktr_room); (case ku => ktr_units)))); intro v99z h99z tk99z F99z N99z e99z; (obtain ⟨D99z, e99z, n99z, T99z⟩ := e99z); (cases e99z); (clear n99z); (try dsimp only); (try k_fold)) | with_reducible (k_here; (with_reducible show wpAny _ _ (call (Value.builtin "str.join") [Value.str _ _, Value.ref _]) _ _ _); (with_reducible rename StrsAre _ _ => hSt99z); k_dflt (refine' join_listW (ys := ?ys) ?k1 ?k2 ?k3 ?k4 ?_; (case k1 => exact News.isList (by k_asm) (by k_mem)); (case k2 => simpa using hSt99z); (case k3 => decide); (case k4 => first | omega | (simp only [] at *; omega))); intro t99z k99z) | with_reducible (k_here; (with_reducible show wpAny _ _ (call (Value.builtin "str.split") _) _ _ _); refine KSpl.split1 (by k_asm) (by k_asm) (by decide) ?_ (by (first | exact split_fits (by assumption) | exact split_fits (Nat.le_trans (restOf_le _) (by assumption)))); intro D9z l9z h9z k9z e9z a9z F9z N9z l19z; (try k_lt l19z)) | walk1 | (dsimp only; walk1) | (leave1; walk_say "STEP leave1"; try dsimp only))
    rename ∀ (v : Value) (h' : Heap) (tk' : Nat), _ => hRet
    refine hRet _ _ _ (by assumption) (stays_of GS9 (by assumption) F' fun p hp => ?_) ⟨_, us, n9, rest, rfl, ?_, hI⟩
    · rw [List.mem_singleton.mp hp]; exact (N' _ (by k_mem)).1
    · rename News _ _ _ _ => nN3
      intro p hp
      refine nN3 p ?_
      rcases List.mem_cons.mp hp with rfl | hp
      · exact .head _
      · exact .tail _ (.tail _ hp)
end

theorem at_Q1 : True := by w_top off; trivial
noncomputable def CEnd (h₀ : Heap) (L : Addr) (m : Str → Option Value) (I C D : Addr) (s₁ : Shared) (ys : List Value) (P : List (Addr × Obj) → Prop) (s₂ : Shared) : Prop :=
  ∃ h' tk oI oC nx, s₂ = { s₁ with heap := h', toks := tk } ∧ Fr h₀ L h' m ∧ News h₀ L h' ((I, oI) :: (C, oC) :: (D, LCg.lst ys) :: nx) ∧ (∃ m', LCg.NsObj oC m') ∧ LCg.Off3 I C D nx ∧ (∃ l j, h'.IsListIter I l j) ∧ P nx
section
variable {prog : Program} {w : World} {A : Around} {E : Value → Shared → Prop} {R : Result → Shared → Prop} {s : Shared} {h₀ : Heap} {L : Addr} {m : Str → Option Value}
/-- the turns of a comprehension of one clause: any target, any tests -/
theorem comp_turns {elt target iter : Expr} {ifs : List Expr} {scope : Scope} {pos : Pos} {it acc : Value} {env : Env} (Inv : Nat → Shared → Prop)
    (turn : ∀ n s, Inv n s → ∀ E', (∀ e s', E' e s' → notedBy (model prog w) A env (fun e s' => R (.error e) s') e s') ∨ E' = notedBy (model prog w) A env (fun e s' => R (.error e) s') → wpAny (model prog w) A (pyNext it) (fun r s₁ => match r with
      | none => R (.ok .next) s₁
      | some v => wpAny (model prog w) A (letOwnedTupleGo target it v) (fun _ s₂ => wpAny (model prog w) A (assign target env v) (fun _ s₃ =>
          wpAny (model prog w) A (forIn ifs true fun c r => if r = true then do let ok ← isTrue c env (eval c env); pure (ForInStep.yield ok) else pure (ForInStep.yield r)) (fun ok s₄ =>
            if ok = true then wpAny (model prog w) A (eval elt env) (fun x s₅ => wpAny (model prog w) A (call (.builtin "list.append") [acc, x]) (fun _ s₆ => ∃ k, k < n ∧ Inv k s₆) E' s₅) E' s₄
            else ∃ k, k < n ∧ Inv k s₄) E' s₃) E' s₂) E' s₁) E' s)
    (n : Nat) (h : Inv n s) : codeAny (model prog w) A (.compLoop (.ListComp elt [⟨target, iter, ifs, 0⟩] scope pos) 0 it acc env) R s := by
  refine codeAny_loop rfl Inv (fun n s hI => ?_) n h
  show wpAny _ A ((compTurn (.ListComp elt [⟨target, iter, ifs, 0⟩] scope pos) 0 it acc env).onRaise (fun x => do noteFrame x env; theTreesLotGoes x)) _ _ s
  refine wpAny_noted ?_
  rw [compTurn_list]
  refine wpAny_bind (wpAny_standAt (wpAny_bind (wpAny_mono (turn n s hI _ (.inr rfl)) (fun r s₁ h₁ => ?_) fun _ _ h' => h')))
  cases r with
  | none => exact wpAny_pure h₁
  | some v =>
    refine wpAny_bind (wpAny_mono h₁ (fun _ s₂ h₂ => ?_) fun _ _ h' => h')
    refine wpAny_bind (wpAny_mono h₂ (fun _ s₃ h₃ => wpAny_bind (wpAny_mono h₃ (fun ok s₄ h₄ => ?_) fun _ _ h' => h')) fun _ _ h' => h')
    cases ok with
    | true =>
      rw [if_pos rfl] at h₄
      exact wpAny_bind (wpAny_bind (wpAny_mono h₄ (fun x s₅ h₅ => wpAny_bind (wpAny_mono h₅ (fun _ s₆ h₆ => wpAny_pure (wpAny_pure ⟨rfl, h₆⟩)) fun _ _ h' => h')) fun _ _ h' => h'))
    | false =>
      rw [if_neg Bool.false_ne_true] at h₄
      exact wpAny_pure ⟨rfl, h₄⟩
/-- the whole loop of a comprehension over a list of the ledger; what stands between two turns is what J says of the number of turns, the values so far and the rest of the ledger -/
theorem comp_core {elt target iter : Expr} {ifs : List Expr} {scope : Scope} {pos : Pos} {env : Env} {ax I C D : Addr} {its : Array Value} {k : Nat} {oI oC : Obj} {news : List (Addr × Obj)} (J : Nat → List Value → List (Addr × Obj) → Prop)
    (hh : A.handled = none) (hsz : its.size ≤ sizeLine) (src : ∀ i ys nx, J i ys nx → (ax, listOf its k) ∈ nx)
    (turn : ∀ i v oI oC ys nx h tk (E' : Value → Shared → Prop), its[i]? = some v → J i ys nx → (∃ m', LCg.NsObj oC m') → Fr h₀ L h m → News h₀ L h ((I, oI) :: (C, oC) :: (D, LCg.lst ys) :: nx) → LCg.Off3 I C D nx → (∃ l j, h.IsListIter I l j) →
      wpAny (model prog w) A (letOwnedTupleGo target (.ref I) v) (fun _ s₂ => wpAny (model prog w) A (assign target env v) (fun _ s₃ =>
        wpAny (model prog w) A (forIn ifs true fun c r => if r = true then do let ok ← isTrue c env (eval c env); pure (ForInStep.yield ok) else pure (ForInStep.yield r)) (fun ok s₄ =>
          if ok = true then wpAny (model prog w) A (eval elt env) (fun y s₅ => CEnd h₀ L m I C D { s with heap := h, toks := tk } ys (J (i + 1) (ys ++ [y])) s₅ ∧ ∃ o, s₅.heap.get? I = some o ∧ h.get? I = some o) E' s₄
          else CEnd h₀ L m I C D { s with heap := h, toks := tk } ys (J (i + 1) ys) s₄ ∧ ∃ o, s₄.heap.get? I = some o ∧ h.get? I = some o) E' s₃) E' s₂) E' { s with heap := h, toks := tk })
    (hne : (@Ne Nat I C) ∧ (@Ne Nat I D) ∧ (@Ne Nat C D)) (F : Fr h₀ L s.heap m) (N : News h₀ L s.heap ((I, oI) :: (C, oC) :: (D, LCg.lst []) :: news)) (hC : ∃ m', LCg.NsObj oC m') (off : LCg.Off3 I C D news) (hI : s.heap.IsListIter I ax 0) (h0 : J 0 [] news)
    (fin : ∀ h tk oC ys nx, J its.size ys nx → Fr h₀ L h m → News h₀ L h ((C, oC) :: (D, LCg.lst ys) :: nx) → (∃ m', LCg.NsObj oC m') → LCg.Off3 I C D nx → R (.ok .next) { s with heap := h, toks := tk }) :
    codeAny (model prog w) A (.compLoop (.ListComp elt [⟨target, iter, ifs, 0⟩] scope pos) 0 (.ref I) (.ref D) env) R s := by
  refine comp_turns (fun q s' => ∃ h' tk i ys oI oC nx, s' = { s with heap := h', toks := tk } ∧ i ≤ its.size ∧ q = its.size - i ∧ ys.length ≤ i ∧ h'.IsListIter I ax i ∧ Fr h₀ L h' m ∧ News h₀ L h' ((I, oI) :: (C, oC) :: (D, LCg.lst ys) :: nx) ∧ (∃ m', LCg.NsObj oC m') ∧ LCg.Off3 I C D nx ∧ J i ys nx) ?_ (its.size - 0)
    ⟨s.heap, s.toks, 0, [], oI, oC, news, rfl, Nat.zero_le _, rfl, Nat.le_refl _, hI, F, N, hC, off, h0⟩
  rintro q s' ⟨h', tk, i, ys, oI, oC, nx, rfl, hi, rfl, hyl, hit, F', N', hC', off', hJ⟩ E' -
  have hsrc := src _ _ _ hJ
  have hax : h'.IsList ax its := ⟨_, (N' _ (.tail _ (.tail _ (.tail _ hsrc)))).1, rfl, _, rfl⟩
  have o3 := off'.mem
  have hI0 : h₀.get? I = none := (N' _ (.head _)).2.2
  have hIL : I ≠ L := (N' _ (.head _)).2.1
  have hAI : ax ≠ I := (o3 _ hsrc).1
  have rest : ∀ g : Heap, (∀ b o, b ∉ [I] → h'.get? b = some o → g.get? b = some o) → News h₀ L g ((C, oC) :: (D, LCg.lst ys) :: nx) := fun g hk p hp => by
    refine ⟨hk _ _ ?_ (N' p (.tail _ hp)).1, (N' p (.tail _ hp)).2⟩
    rw [List.mem_singleton]
    rcases List.mem_cons.mp hp with rfl | hp
    · exact Ne.symm hne.1
    · rcases List.mem_cons.mp hp with rfl | hp
      · exact Ne.symm hne.2.1
      · exact (o3 p hp).1
  by_cases hlt : i < its.size
  · refine (Walks.list hh I ax hAI its).item i _ _ _ hlt ⟨hit, hax⟩ fun v g tk₂ hv hst hk => ?_
    have Fg : Fr h₀ L g m := LCg.fr_but F' hk (Ne.symm hIL) hI0
    obtain ⟨oI₂, heI, hoc, hod⟩ := hst.1
    have Ng : News h₀ L g ((I, oI₂) :: (C, oC) :: (D, LCg.lst ys) :: nx) := fun p hp => by
      rcases List.mem_cons.mp hp with rfl | hp
      · exact ⟨heI, hIL, hI0⟩
      · exact rest g hk p hp
    have fin1 : ∀ (g' : Heap) (tk' : Nat) (ys' : List Value) (oI' oC' : Obj) (nx' : List (Addr × Obj)), ys'.length ≤ i + 1 → (∃ o, g'.get? I = some o ∧ g.get? I = some o) → Fr h₀ L g' m → News h₀ L g' ((I, oI') :: (C, oC') :: (D, LCg.lst ys') :: nx') → (∃ m', LCg.NsObj oC' m') → LCg.Off3 I C D nx' → J (i + 1) ys' nx' →
        ∃ k', k' < its.size - i ∧ ∃ h' tk i ys oI oC nx, ({ s with heap := g', toks := tk' } : Shared) = { s with heap := h', toks := tk } ∧ i ≤ its.size ∧ k' = its.size - i ∧ ys.length ≤ i ∧ h'.IsListIter I ax i ∧ Fr h₀ L h' m ∧ News h₀ L h' ((I, oI) :: (C, oC) :: (D, LCg.lst ys) :: nx) ∧ (∃ m', LCg.NsObj oC m') ∧ LCg.Off3 I C D nx ∧ J i ys nx :=
      fun g' tk' ys' oI' oC' nx' hl ho a b c d e => ⟨its.size - (i + 1), by omega, g', tk', i + 1, ys', oI', oC', nx', rfl, hlt, rfl, hl, by
        obtain ⟨o, e1, e2⟩ := ho
        rw [heI] at e2; cases e2
        exact ⟨oI₂, e1, hoc, hod⟩, a, b, c, d, e⟩
    refine wpAny_mono (turn i v oI₂ oC ys nx g tk₂ E' hv hJ hC' Fg Ng off' ⟨_, _, hst.1⟩) (fun _ s₂ h₂ => wpAny_mono h₂ (fun _ s₃ h₃ => wpAny_mono h₃ (fun ok s₄ h₄ => ?_) fun _ _ e => e) fun _ _ e => e) fun _ _ e => e
    cases ok with
    | true =>
      rw [if_pos rfl] at h₄ ⊢
      refine wpAny_mono h₄ (fun y s₅ h₅ => ?_) fun _ _ e => e
      obtain ⟨⟨g', tk', oI', oC', nx', rfl, Fe, Ne', hCe, offe, _, hJe⟩, o, e1, e2⟩ := h₅
      refine append_at (hsz := by show ys.toArray.size ≤ sizeLine; rw [List.size_toArray]; omega) (Ne' _ (.tail _ (.tail _ (.head _)))).1 fun g5 hs5 hD5 => ?_
      have oe := offe.mem
      have hD0 := (Ne' _ (.tail _ (.tail _ (.head _)))).2
      refine fin1 g5 tk' (ys ++ [y]) oI' oC' nx' (by rw [List.length_append, List.length_singleton]; omega) ⟨o, (hs5.2 I hne.2.1).trans e1, e2⟩ (Fe.change hs5 hD0.1 hD0.2) (fun p hp => ?_) hCe offe hJe
      rcases List.mem_cons.mp hp with rfl | hp
      · exact ⟨(hs5.2 _ hne.2.1).trans (Ne' _ (.head _)).1, (Ne' _ (.head _)).2⟩
      · rcases List.mem_cons.mp hp with rfl | hp
        · exact ⟨(hs5.2 _ hne.2.2).trans (Ne' _ (.tail _ (.head _))).1, (Ne' _ (.tail _ (.head _))).2⟩
        · rcases List.mem_cons.mp hp with rfl | hp
          · exact ⟨hD5.trans (congrArg some (LCg.lst_snoc ys y)), hD0⟩
          · have z := Ne' p (.tail _ (.tail _ (.tail _ hp)))
            exact ⟨(hs5.2 _ (oe p hp).2.2).trans z.1, z.2⟩
    | false =>
      rw [if_neg Bool.false_ne_true] at h₄ ⊢
      obtain ⟨⟨g', tk', oI', oC', nx', rfl, Fe, Ne', hCe, offe, _, hJe⟩, ho⟩ := h₄
      exact fin1 g' tk' ys oI' oC' nx' (Nat.le_succ_of_le hyl) ho Fe Ne' hCe offe hJe
  · obtain rfl : i = its.size := Nat.le_antisymm hi (Nat.not_lt.mp hlt)
    refine (Walks.list hh I ax hAI its).done _ _ _ ⟨hit, hax⟩ fun g tk₂ hk => ?_
    exact fin g tk₂ oC ys nx hJ (LCg.fr_but F' hk (Ne.symm hIL) hI0) (rest g hk) hC' off'
end

theorem at_Q2 : True := by w_top off; trivial
noncomputable def CE (h₀ : Heap) (L : Addr) (m : Str → Option Value) (I : Addr) (oI : Obj) (C D : Addr) (s₁ : Shared) (ys : List Value) (P : List (Addr × Obj) → Prop) (s₂ : Shared) : Prop :=
  ∃ h' tk oC nx, s₂ = { s₁ with heap := h', toks := tk } ∧ Fr h₀ L h' m ∧ News h₀ L h' ((I, oI) :: (C, oC) :: (D, LCg.lst ys) :: nx) ∧ (∃ m', LCg.NsObj oC m') ∧ LCg.Off3 I C D nx ∧ P nx
theorem CE.up {h₀ h : Heap} {L I C D : Addr} {m : Str → Option Value} {oI : Obj} {s₁ s₂ : Shared} {ys : List Value} {P P' : List (Addr × Obj) → Prop} (x : CE h₀ L m I oI C D s₁ ys P s₂) (hI : ∃ l j, h.IsListIter I l j) (e : h.get? I = some oI) (hp : ∀ nx, P nx → P' nx) :
    CEnd h₀ L m I C D s₁ ys P' s₂ ∧ ∃ o, s₂.heap.get? I = some o ∧ h.get? I = some o := by
  obtain ⟨h', tk, oC, nx, rfl, F, N, hC, off, hP⟩ := x
  have e2 := (N _ (.head _)).1
  obtain ⟨l, j, o, e3, r⟩ := hI
  rw [e] at e3; cases e3
  exact ⟨⟨h', tk, oI, oC, nx, rfl, F, N, hC, off, ⟨l, j, oI, e2, r⟩, hp _ hP⟩, oI, e2, e⟩
theorem CE.mk {h₀ h' : Heap} {L I C D : Addr} {m : Str → Option Value} {oI oC : Obj} {s₁ : Shared} {tk : Nat} {ys : List Value} {P : List (Addr × Obj) → Prop} {m' : Str → Option Value} {all : List (Addr × Obj)} (nx : List (Addr × Obj)) (F : Fr h₀ L h' m) (N : News h₀ L h' all)
    (sub : ∀ p ∈ (I, oI) :: (C, oC) :: (D, LCg.lst ys) :: nx, p ∈ all) (hC : LCg.NsObj oC m') (off : LCg.Off3 I C D nx) (hP : P nx) : CE h₀ L m I oI C D s₁ ys P { s₁ with heap := h', toks := tk } :=
  ⟨h', tk, oC, nx, rfl, F, fun p hp => N p (sub p hp), ⟨m', hC⟩, off, hP⟩
section
variable {prog : Program} {w : World} {A : Around} {E : Value → Shared → Prop} {s : Shared} {h₀ : Heap} {L : Addr} {m : Str → Option Value} {env : Env}
noncomputable def SrcPT (prog : Program) (w : World) (A : Around) (h₀ : Heap) (L : Addr) (m : Str → Option Value) (env : Env) (ct elt : Expr) (x x₂ : Str) (scope : Scope) (cl : List (Str × Addr)) (Q : Value → Shared → Prop) (xv : Value) (s₁ : Shared) : Prop :=
  ∃ ax its k news, ∃ J : Nat → List Value → List (Addr × Obj) → Prop, xv = .ref ax ∧ Fr h₀ L s₁.heap m ∧ News h₀ L s₁.heap news ∧ its.size ≤ sizeLine ∧ (∀ i ys nx, J i ys nx → (ax, listOf its k) ∈ nx) ∧ J 0 [] news ∧
    (∀ i v ys nx, its[i]? = some v → J i ys nx → ∃ t v₁ v₂, v = .ref t ∧ (t, tupObj [v₁, v₂]) ∈ nx ∧
      ∀ I oI C oC D m₂ h tk (E' : Value → Shared → Prop), LCg.NsObj oC m₂ → m₂ x = some v₁ → m₂ x₂ = some v₂ → Fr h₀ L h m → News h₀ L h ((I, oI) :: (C, oC) :: (D, LCg.lst ys) :: nx) → LCg.Off3 I C D nx →
        wpAny (model prog w) A (isTrue ct (compEnvC scope cl C env) (eval ct (compEnvC scope cl C env))) (fun ok s' => if ok = true then
          wpAny (model prog w) A (eval elt (compEnvC scope cl C env)) (fun y s₅ => CE h₀ L m I oI C D { s₁ with heap := h, toks := tk } ys (J (i + 1) (ys ++ [y])) s₅) E' s'
          else CE h₀ L m I oI C D { s₁ with heap := h, toks := tk } ys (J (i + 1) ys) s') E' { s₁ with heap := h, toks := tk }) ∧
    (∀ D h tk ys nx, J its.size ys nx → Fr h₀ L h m → News h₀ L h ((D, LCg.lst ys) :: nx) → LCg.Off1 D nx → Q (.ref D) { s₁ with heap := h, toks := tk })
/-- a comprehension over a list of pairs, with a pair as its target and one test -/
theorem ListComp_PT {ct elt iter : Expr} {x x₂ : Str} {px px₂ tp : Pos} {kk} {scope : Scope} {cl : List (Str × Addr)} {pos : Pos} {Q : Value → Shared → Prop}
    (_F₀ : Fr h₀ L s.heap m) (hclos : closureFor scope env = pure cl) (hcell : ∀ y ∈ scope.names, y.2 ≠ .cell) (hkind : scope.kind = .function)
    (hnames : ∀ y ∈ scope.names, y.2 = .local → scope.names.lookup y.1 = some .local) (hx : scope.names.lookup x = some .local) (hx₂ : scope.names.lookup x₂ = some .local) (hxx : x ≠ x₂) (hh : A.handled = none)
    (h : wpAny (model prog w) A (eval iter env) (SrcPT prog w A h₀ L m env ct elt x x₂ scope cl Q) E s)
    (hs : ∀ x, foldedSetIterable iter env x = pure x := by intro _; rfl) :
    wpAny (model prog w) A (eval (.ListComp elt [⟨.Tuple [.Name x px, .Name x₂ px₂] kk tp, iter, [ct], 0⟩] scope pos) env) Q E s := by
  rw [eval_ListComp]
  refine wpAny_comprehension_free (use := none) rfl hs hclos hkind hnames (wpAny_mono h (fun xv s₁ h₁ => ?_) fun _ _ e => e)
  obtain ⟨ax, its, k, news, J, rfl, F, N, hsz, src, h0, turn, fin⟩ := h₁
  have hm := src _ _ _ h0
  refine wpAny_pyIter_list ⟨_, (N _ hm).1, rfl, _, rfl⟩ ?_
  refine wpAny_newObj_type (wpAny_newFunctionEnv hcell (by intro y hy; simp at hy) (fun h₁ hns₁ hsb₁ => ?_) hkind)
  dsimp only at hns₁ hsb₁ ⊢
  have F1 := F.push { cls := .type "list_iterator", data := .fields #[.ref ax, .int 0 0] }
  have N1 := N.push F { cls := .type "list_iterator", data := .fields #[.ref ax, .int 0 0] }
  have a0 := N.apart
  have z1 : (s₁.heap.push { cls := .type "list_iterator", data := .fields #[.ref ax, .int 0 0] }).objs.size = s₁.heap.objs.size + 1 := Heap.size_push _ _
  generalize s₁.heap.push { cls := .type "list_iterator", data := .fields #[.ref ax, .int 0 0] } = g1 at *
  have F2 := F1.push (LCg.lst [])
  have N2 := N1.push F1 (LCg.lst [])
  have a1 := N1.apart
  have z2 : (g1.push (LCg.lst [])).objs.size = g1.objs.size + 1 := Heap.size_push _ _
  have hsb₂ : ∀ b o, b ≠ (g1.push (LCg.lst [])).objs.size → (g1.push (LCg.lst [])).get? b = some o → h₁.get? b = some o := fun b o hb e => hsb₁.extBut b o hb (Heap.get?_push_of_some _ e)
  clear hsb₁
  change h₁.Ns (g1.push (LCg.lst [])).objs.size _ at hns₁
  show codeAny (model prog w) A (.compStart _ 0 (.ref s₁.heap.objs.size) (.ref g1.objs.size) (compEnvC scope cl (g1.push (LCg.lst [])).objs.size env)) _ _
  show codeAny (model prog w) A _ (compPost (model prog w) A E none Q (.ref g1.objs.size) (g1.push (LCg.lst [])).objs.size) _
  have a2 := N2.apart
  have hCL : (g1.push (LCg.lst [])).objs.size ≠ L := Nat.ne_of_gt F2.ns.lt
  have hC0 : h₀.get? (g1.push (LCg.lst [])).objs.size = none := by
    cases e : h₀.get? (g1.push (LCg.lst [])).objs.size with
    | none => rfl
    | some o => exact absurd (Heap.lt_size (F2.keep _ _ e)) (Nat.lt_irrefl _)
  have N2' : News h₀ L (g1.push (LCg.lst [])) ((g1.objs.size, LCg.lst []) :: (s₁.heap.objs.size, { cls := .type "list_iterator", data := .fields #[.ref ax, .int 0 0] }) :: news) := N2
  generalize (g1.push (LCg.lst [])).objs.size = C at *
  generalize (g1.push (LCg.lst [])) = g2 at *
  have keep2 : ∀ b o, b ≠ C → g2.get? b = some o → h₁.get? b = some o := fun b o hb e => hsb₂ b o hb e
  have F3 : Fr h₀ L h₁ m := ⟨F2.ns.at' fun o e => keep2 _ o (Ne.symm hCL) e, fun b o e => keep2 b o (by rintro rfl; rw [hC0] at e; cases e) (F2.keep b o e), F2.above⟩
  obtain ⟨oC, heC, hoC⟩ := LCg.ns_obj hns₁
  have hIC : (@Ne Nat s₁.heap.objs.size C) := a2 _ (.tail _ (.head _))
  have hCD : (@Ne Nat C g1.objs.size) := Ne.symm (a2 _ (.head _))
  have hID : (@Ne Nat s₁.heap.objs.size g1.objs.size) := a1 _ (.head _)
  have N3 : News h₀ L h₁ ((s₁.heap.objs.size, { cls := .type "list_iterator", data := .fields #[.ref ax, .int 0 0] }) :: (C, oC) :: (g1.objs.size, LCg.lst []) :: news) := fun p hp => by
    rcases List.mem_cons.mp hp with rfl | hp
    · exact ⟨keep2 _ _ hIC (N2' _ (.tail _ (.head _))).1, (N2' _ (.tail _ (.head _))).2⟩
    · rcases List.mem_cons.mp hp with rfl | hp
      · exact ⟨heC, hCL, hC0⟩
      · rcases List.mem_cons.mp hp with rfl | hp
        · exact ⟨keep2 _ _ (Ne.symm hCD) (N2' _ (.head _)).1, (N2' _ (.head _)).2⟩
        · exact ⟨keep2 _ _ (a2 p (.tail _ (.tail _ hp))) (N2' p (.tail _ (.tail _ hp))).1, (N2' p (.tail _ (.tail _ hp))).2⟩
  have off3 : LCg.Off3 s₁.heap.objs.size C g1.objs.size news := LCg.Off3.of fun p hp => ⟨a0 p hp, a2 p (.tail _ (.tail _ hp)), a1 p (.tail _ hp)⟩
  generalize hsI : s₁.heap.objs.size = I at *
  generalize g1.objs.size = D at *
  have loop := comp_core (prog := prog) (w := w) (A := A) (R := compPost (model prog w) A E none Q (.ref D) C) (s := { s₁ with heap := h₁, toks := s₁.toks + ([] : List (Str × Value)).length }) (elt := elt) (target := .Tuple [.Name x px, .Name x₂ px₂] kk tp) (iter := iter) (ifs := [ct]) (scope := scope) (pos := pos) (env := compEnvC scope cl C env) J hh hsz src
    (fun i v oI oC ys nx h tk E' hv hJ hC' F' N' off' hit => by
      obtain ⟨t, v₁, v₂, rfl, hmt, T⟩ := turn i v ys nx hv hJ
      obtain ⟨l, j, hit'⟩ := id hit
      refine wpAny_letOwnedTupleGo_listiter hit' ?_
      have hIo := (N' _ (.head _)).1
      obtain ⟨m', hoC'⟩ := hC'
      refine assign_Tuple_tuple hh ⟨_, (N' _ (.tail _ (.tail _ (.tail _ hmt)))).1, rfl, _, rfl⟩ rfl rfl fun h₅ he => ?_
      have he' : ∀ b o, h.get? b = some o → h₅.get? b = some o := fun b o e => he b o (Nat.ne_of_lt (Heap.lt_size e)) e
      have hns5 : h₅.Ns C m' := hoC'.ns (he' _ _ (N' _ (.tail _ (.head _))).1)
      refine assignInOrder_cons (wpAny_assign_Name (wpAny_storeName_local (lookup_relabel_local hx) hns5 (fun h₆ hn₆ hs₆ => ?_) (by simp [compEnvC, relabel, hkind])))
      refine assignInOrder_cons (wpAny_assign_Name (wpAny_storeName_local (lookup_relabel_local hx₂) hn₆ (fun h₃ hn₃ hs₃ => ?_) (by simp [compEnvC, relabel, hkind])))
      refine assignInOrder_nil ?_
      refine wpAny_tests_one ?_
      obtain ⟨oC2, heC2, hoC2⟩ := LCg.ns_obj hn₃
      have old3 : ∀ b o, b ≠ C → h.get? b = some o → h₃.get? b = some o := fun b o hb e => (hs₃.2 b hb).trans ((hs₆.2 b hb).trans (he' b o e))
      have F4 : Fr h₀ L h₃ m := ⟨F'.ns.at' fun o e => old3 _ o (Ne.symm hCL) e, fun b o e => old3 b o (by rintro rfl; rw [hC0] at e; cases e) (F'.keep b o e), F'.above⟩
      have o3 := off'.mem
      have N4 : News h₀ L h₃ ((I, oI) :: (C, oC2) :: (D, LCg.lst ys) :: nx) := fun p hp => by
        rcases List.mem_cons.mp hp with rfl | hp
        · exact ⟨old3 _ _ hIC hIo, (N' _ (.head _)).2⟩
        · rcases List.mem_cons.mp hp with rfl | hp
          · exact ⟨heC2, hCL, hC0⟩
          · refine ⟨old3 _ _ ?_ (N' p (.tail _ (.tail _ hp))).1, (N' p (.tail _ (.tail _ hp))).2⟩
            rcases List.mem_cons.mp hp with rfl | hp
            · exact Ne.symm hCD
            · exact (o3 p hp).2.1
      refine wpAny_mono (T I oI C oC2 D _ h₃ _ E' hoC2 (by simp [hxx]) (by simp) F4 N4 off') (fun ok s₄ h₄ => ?_) fun _ _ e => e
      cases ok with
      | true =>
        rw [if_pos rfl] at h₄ ⊢
        exact wpAny_mono h₄ (fun y s₅ h₅ => CE.up h₅ hit hIo fun _ hp => hp) fun _ _ e => e
      | false =>
        rw [if_neg Bool.false_ne_true] at h₄ ⊢
        exact CE.up h₄ hit hIo fun _ hp => hp)
    ⟨hIC, hID, hCD⟩ F3 N3 ⟨_, hoC⟩ off3 ⟨_, (N3 _ (.head _)).1, rfl, rfl⟩ h0
    (fun h tk oC ys nx hJ F' N' hC' off' => by
      obtain ⟨m', hoC'⟩ := hC'
      refine ⟨m', hoC'.ns (N' _ (.head _)).1, fun h'' hs'' => fin D h'' tk ys nx hJ (F'.change hs'' hCL hC0) (fun p hp => ?_) off'.one⟩
      refine ⟨(hs''.2 _ ?_).trans (N' p (.tail _ hp)).1, (N' p (.tail _ hp)).2⟩
      rcases List.mem_cons.mp hp with rfl | hp
      · exact Ne.symm hCD
      · exact (off'.mem p hp).2.1)
  exact codeAny_compStart_list loop (wpAny_pyIter_listiter (l := ax) (i := 0) ⟨_, (N3 _ (.head _)).1, rfl, rfl⟩ loop)
end

theorem at_Q3 : True := by w_top off; trivial
section
variable {prog : Program} {w : World} {A : Around} {E : Value → Shared → Prop} {s : Shared} {h₀ : Heap} {L : Addr} {m : Str → Option Value} {env : Env}
theorem newEnv_cell {scope : Scope} {g : Addr} {cl : List (Str × Addr)} {q : Str} {n0 x nf : Str} {Q : Env → Shared → Prop} (hn : scope.names = [(n0, .local), (x, .cell), (nf, .free)])
    (h : Q { scope := scope, locals := s.heap.objs.size, globals := g, cells := (x, (s.heap.push { cls := .type "dict", data := .dict #[] }).objs.size) :: cl, qual := q, func := none, code := env.code, frame := env.frame, builtins := env.builtins }
      { s with heap := (s.heap.push { cls := .type "dict", data := .dict #[] }).push { cls := .type "cell", data := .cell none } }) :
    wpAny (model prog w) A (newFunctionEnv scope g cl [] q none .none (some env)) Q E s := by
  unfold newFunctionEnv
  rw [hn]
  refine wpAny_bind (wpAny_alloc ?_)
  refine wpAny_bind ?_
  rw [List.forIn_cons]
  refine wpAny_bind (wpAny_pure ?_)
  dsimp only
  rw [List.forIn_cons]
  refine wpAny_bind (wpAny_bind (wpAny_alloc (wpAny_pure ?_)))
  dsimp only
  rw [List.forIn_cons]
  refine wpAny_bind (wpAny_pure ?_)
  dsimp only
  rw [List.forIn_nil]
  refine wpAny_pure ?_
  refine wpAny_bind (wpAny_pure (wpAny_pure ?_))
  exact h
noncomputable def SrcA (prog : Program) (w : World) (A : Around) (h₀ : Heap) (L : Addr) (m : Str → Option Value) (env : Env) (elt : Expr) (x : Str) (scope : Scope) (cl : List (Str × Addr)) (Q : Value → Shared → Prop) (xv : Value) (s₁ : Shared) : Prop :=
  ∃ ax its k news, ∃ J : Nat → List Value → List (Addr × Obj) → Prop, xv = .ref ax ∧ Fr h₀ L s₁.heap m ∧ News h₀ L s₁.heap news ∧ its.size ≤ sizeLine ∧ (∀ i ys nx, J i ys nx → (ax, listOf its k) ∈ nx) ∧ J 0 [] news ∧
    (∀ i v ys nx I oI C oC c oc D h tk (E' : Value → Shared → Prop), its[i]? = some v → J i ys nx → oc.data = .cell (some v) → (∃ m', LCg.NsObj oC m') → Fr h₀ L h m → News h₀ L h ((I, oI) :: (C, oC) :: (D, LCg.lst ys) :: (c, oc) :: nx) → LCg.Off3 I C D ((c, oc) :: nx) → LCg.Off1 c nx →
        wpAny (model prog w) A (eval elt (compEnvC scope ((x, c) :: cl) C env)) (fun y s₅ => CE h₀ L m I oI C D { s₁ with heap := h, toks := tk } ys (fun nx' => ∃ nx2, nx' = (c, oc) :: nx2 ∧ LCg.Off1 c nx2 ∧ J (i + 1) (ys ++ [y]) nx2) s₅) E' { s₁ with heap := h, toks := tk }) ∧
    (∀ D h tk ys nx, J its.size ys nx → Fr h₀ L h m → News h₀ L h ((D, LCg.lst ys) :: nx) → LCg.Off1 D nx → Q (.ref D) { s₁ with heap := h, toks := tk })
theorem off1_all {c : Addr} : ∀ {l : List (Addr × Obj)}, LCg.Off1 c l → ∀ p ∈ l, @Ne Nat p.1 c
  | [], _, _, h => nomatch h
  | _ :: _, x, p, h => by
    rcases List.mem_cons.mp h with rfl | h
    · exact x.1
    · exact off1_all x.2 p h
theorem off1_of {c : Addr} : ∀ {l : List (Addr × Obj)}, (∀ p ∈ l, @Ne Nat p.1 c) → LCg.Off1 c l
  | [], _ => trivial
  | _ :: _, h => ⟨h _ (.head _), off1_of fun p hp => h p (.tail _ hp)⟩
/-- a comprehension whose name is a cell (an inner one reads it) -/
theorem ListComp_A {elt iter : Expr} {x n0 nf : Str} {px : Pos} {scope : Scope} {cl : List (Str × Addr)} {pos : Pos} {Q : Value → Shared → Prop}
    (_F₀ : Fr h₀ L s.heap m) (hclos : closureFor scope env = pure cl) (hn : scope.names = [(n0, .local), (x, .cell), (nf, .free)]) (hkind : scope.kind = .function)
    (hnames : ∀ y ∈ scope.names, y.2 = .local → scope.names.lookup y.1 = some .local) (hx : (compEnvC scope [] 0 env).kindOf x = some .cell) (hh : A.handled = none)
    (h : wpAny (model prog w) A (eval iter env) (SrcA prog w A h₀ L m env elt x scope cl Q) E s)
    (hs : ∀ x, foldedSetIterable iter env x = pure x := by intro _; rfl) :
    wpAny (model prog w) A (eval (.ListComp elt [⟨.Name x px, iter, [], 0⟩] scope pos) env) Q E s := by
  rw [eval_ListComp]
  refine wpAny_comprehension_free (use := none) rfl hs hclos hkind hnames (wpAny_mono h (fun xv s₁ h₁ => ?_) fun _ _ e => e)
  obtain ⟨ax, its, k, news, J, rfl, F, N, hsz, src, h0, turn, fin⟩ := h₁
  have hm := src _ _ _ h0
  refine wpAny_pyIter_list ⟨_, (N _ hm).1, rfl, _, rfl⟩ ?_
  refine wpAny_newObj_type (newEnv_cell hn ?_)
  dsimp only
  have F1 := F.push { cls := .type "list_iterator", data := .fields #[.ref ax, .int 0 0] }
  have N1 := N.push F { cls := .type "list_iterator", data := .fields #[.ref ax, .int 0 0] }
  have a0 := N.apart
  generalize s₁.heap.push { cls := .type "list_iterator", data := .fields #[.ref ax, .int 0 0] } = g1 at *
  have F2 := F1.push (LCg.lst [])
  have N2 := N1.push F1 (LCg.lst [])
  have a1 := N1.apart
  change codeAny (model prog w) A _ _ { s₁ with heap := ((g1.push (LCg.lst [])).push { cls := .type "dict", data := .dict #[] }).push { cls := .type "cell", data := .cell none } }
  have N2' : News h₀ L (g1.push (LCg.lst [])) ((g1.objs.size, LCg.lst []) :: (s₁.heap.objs.size, { cls := .type "list_iterator", data := .fields #[.ref ax, .int 0 0] }) :: news) := N2
  show codeAny (model prog w) A (.compStart _ 0 (.ref s₁.heap.objs.size) (.ref g1.objs.size) (compEnvC scope ((x, ((g1.push (LCg.lst [])).push { cls := .type "dict", data := .dict #[] }).objs.size) :: cl) (g1.push (LCg.lst [])).objs.size env)) (compPost (model prog w) A E none Q (.ref g1.objs.size) (g1.push (LCg.lst [])).objs.size) _
  clear N2
  generalize (g1.push (LCg.lst [])) = g2 at *
  have F3 := F2.push { cls := .type "dict", data := .dict #[] }
  have N3 := N2'.push F2 { cls := .type "dict", data := .dict #[] }
  have a2 := N2'.apart
  have hn3 : (g2.push { cls := .type "dict", data := .dict #[] }).Ns g2.objs.size (fun _ => none) := Heap.Ns.new g2 (.type "dict")
  generalize (g2.push { cls := .type "dict", data := .dict #[] }) = g3 at *
  have F4 := F3.push { cls := .type "cell", data := .cell none }
  have N4 := N3.push F3 { cls := .type "cell", data := .cell none }
  have a3 := N3.apart
  generalize (g3.push { cls := .type "cell", data := .cell none }) = g4 at *
  have hCL : g2.objs.size ≠ L := (N4 _ (.tail _ (.head _))).2.1
  have hC0 : h₀.get? g2.objs.size = none := (N4 _ (.tail _ (.head _))).2.2
  have hcL : g3.objs.size ≠ L := (N4 _ (.head _)).2.1
  have hc0 : h₀.get? g3.objs.size = none := (N4 _ (.head _)).2.2
  obtain ⟨oC, heC, hoC⟩ := LCg.ns_obj hn3
  have hoCe : oC = { cls := .type "dict", data := .dict #[] } := by
    have := (N3 _ (.head _)).1
    rw [heC] at this; exact Option.some.inj this
  subst hoCe
  have hIC : (@Ne Nat s₁.heap.objs.size g2.objs.size) := a2 _ (.tail _ (.head _))
  have hCD : (@Ne Nat g2.objs.size g1.objs.size) := Ne.symm (a2 _ (.head _))
  have hID : (@Ne Nat s₁.heap.objs.size g1.objs.size) := a1 _ (.head _)
  have hIc : (@Ne Nat s₁.heap.objs.size g3.objs.size) := a3 _ (.tail _ (.tail _ (.head _)))
  have hDc : (@Ne Nat g1.objs.size g3.objs.size) := a3 _ (.tail _ (.head _))
  have hCc : (@Ne Nat g2.objs.size g3.objs.size) := a3 _ (.head _)
  have N5 : News h₀ L g4 ((s₁.heap.objs.size, { cls := .type "list_iterator", data := .fields #[.ref ax, .int 0 0] }) :: (g2.objs.size, { cls := .type "dict", data := .dict #[] }) :: (g1.objs.size, LCg.lst []) :: (g3.objs.size, { cls := .type "cell", data := .cell none }) :: news) := fun p hp => by
    rcases List.mem_cons.mp hp with rfl | hp
    · exact N4 _ (.tail _ (.tail _ (.tail _ (.head _))))
    · rcases List.mem_cons.mp hp with rfl | hp
      · exact N4 _ (.tail _ (.head _))
      · rcases List.mem_cons.mp hp with rfl | hp
        · exact N4 _ (.tail _ (.tail _ (.head _)))
        · rcases List.mem_cons.mp hp with rfl | hp
          · exact N4 _ (.head _)
          · exact N4 _ (.tail _ (.tail _ (.tail _ (.tail _ hp))))
  have off5 : LCg.Off3 s₁.heap.objs.size g2.objs.size g1.objs.size ((g3.objs.size, ({ cls := .type "cell", data := .cell none } : Obj)) :: news) := ⟨⟨Ne.symm hIc, Ne.symm hCc, Ne.symm hDc⟩, LCg.Off3.of fun p hp => ⟨a0 p hp, a2 p (.tail _ (.tail _ hp)), a1 p (.tail _ hp)⟩⟩
  have offc : LCg.Off1 g3.objs.size news := off1_of fun p hp => a3 p (.tail _ (.tail _ (.tail _ hp)))
  generalize s₁.heap.objs.size = I at *
  generalize g1.objs.size = D at *
  generalize g2.objs.size = C at *
  generalize g3.objs.size = c at *
  have loop := comp_core (prog := prog) (w := w) (A := A) (R := compPost (model prog w) A E none Q (.ref D) C) (s := { s₁ with heap := g4 }) (elt := elt) (target := .Name x px) (iter := iter) (ifs := []) (scope := scope) (pos := pos) (env := compEnvC scope ((x, c) :: cl) C env)
    (fun i ys nx => ∃ oc v nx2, nx = (c, oc) :: nx2 ∧ oc.data = .cell v ∧ LCg.Off1 c nx2 ∧ J i ys nx2) hh hsz (fun i ys nx hJ => by obtain ⟨oc, v, nx2, rfl, _, _, hJ⟩ := hJ; exact .tail _ (src _ _ _ hJ))
    (fun i v oI oC ys nx h tk E' hv hJ hC' F' N' off' hit => by
      obtain ⟨oc, v0, nx2, rfl, hoc, hoff, hJ⟩ := hJ
      have hIo := (N' _ (.head _)).1
      refine wpAny_of_eq (show letOwnedTupleGo (.Name x px) (.ref I) v = pure () from rfl) ?_
      refine wpAny_assign_Name (wpAny_storeName_cell (c := c) (v₀ := v0) hkind hx (by show List.lookup x ((x, c) :: cl) = some c; rw [List.lookup_cons, beq_self_eq_true]) ⟨oc, (N' _ (.tail _ (.tail _ (.tail _ (.head _))))).1, hoc⟩ fun h₃ hc₃ hs₃ => ?_)
      refine wpAny_tests_nil ?_
      rw [if_pos rfl]
      obtain ⟨oc2, hec2, hoc2⟩ := hc₃
      have o3 := off'.mem
      have o3c := o3 (c, oc) (.head _)
      have F6 : Fr h₀ L h₃ m := F'.change hs₃ hcL hc0
      have o1 := off1_all hoff
      have N6 : News h₀ L h₃ ((I, oI) :: (C, oC) :: (D, LCg.lst ys) :: (c, oc2) :: nx2) := fun p hp => by
        rcases List.mem_cons.mp hp with rfl | hp
        · exact ⟨(hs₃.2 _ hIc).trans hIo, (N' _ (.head _)).2⟩
        · rcases List.mem_cons.mp hp with rfl | hp
          · exact ⟨(hs₃.2 _ hCc).trans (N' _ (.tail _ (.head _))).1, (N' _ (.tail _ (.head _))).2⟩
          · rcases List.mem_cons.mp hp with rfl | hp
            · exact ⟨(hs₃.2 _ hDc).trans (N' _ (.tail _ (.tail _ (.head _)))).1, (N' _ (.tail _ (.tail _ (.head _)))).2⟩
            · rcases List.mem_cons.mp hp with rfl | hp
              · exact ⟨hec2, hcL, hc0⟩
              · have z := N' p (.tail _ (.tail _ (.tail _ (.tail _ hp))))
                exact ⟨(hs₃.2 _ (o1 p hp)).trans z.1, z.2⟩
      refine wpAny_mono (turn i v ys nx2 I oI C oC c oc2 D h₃ _ E' hv hJ hoc2 hC' F6 N6 ⟨off'.1, off'.2⟩ hoff) (fun y s₅ h₅ => ?_) fun _ _ e => e
      exact CE.up h₅ hit hIo fun nx hp => by obtain ⟨nx3, rfl, a, b⟩ := hp; exact ⟨oc2, _, nx3, rfl, hoc2, a, b⟩)
    ⟨hIC, hID, hCD⟩ F4 N5 ⟨_, hoC⟩ off5 ⟨_, (N5 _ (.head _)).1, rfl, rfl⟩ ⟨_, none, news, rfl, rfl, offc, h0⟩
    (fun h tk oC ys nx hJ F' N' hC' off' => by
      obtain ⟨oc, v0, nx2, rfl, hoc, hoff, hJ⟩ := hJ
      obtain ⟨m', hoC'⟩ := hC'
      refine ⟨m', hoC'.ns (N' _ (.head _)).1, fun h'' hs'' => fin D h'' tk ys nx2 hJ (F'.change hs'' hCL hC0) (fun p hp => ?_) off'.one.2⟩
      have hp' : p ∈ (C, oC) :: (D, LCg.lst ys) :: (c, oc) :: nx2 := by
        rcases List.mem_cons.mp hp with rfl | hp
        · exact .tail _ (.head _)
        · exact .tail _ (.tail _ (.tail _ hp))
      refine ⟨(hs''.2 _ ?_).trans (N' p hp').1, (N' p hp').2⟩
      rcases List.mem_cons.mp hp with rfl | hp
      · exact Ne.symm hCD
      · exact (off'.mem p (.tail _ hp)).2.1)
  exact codeAny_compStart_list loop (wpAny_pyIter_listiter (l := ax) (i := 0) ⟨_, (N5 _ (.head _)).1, rfl, rfl⟩ loop)
end

theorem at_O1 : True := by w_top off; trivial
noncomputable def at0 (x : Str) (i : Nat) : Str := ⟨#[x.cps.getD i 0]⟩
theorem site_mem {x : Str} {m : Int} (h : siteF x = some m) : ∃ p ∈ siteC, p.1 = x ∧ p.2 = m := by
  unfold siteF at h
  obtain ⟨p, hp, rfl⟩ := Option.map_eq_some_iff.mp h
  refine ⟨p, List.mem_of_find?_eq_some hp, ?_, rfl⟩
  have := List.find?_some hp
  simpa using this
theorem mode_all : ∀ p ∈ siteC, (modeF p.2).length = 10 ∧ (∀ c ∈ (modeF p.2).cps.toList, 32 ≤ c ∧ c ≤ 126) ∧ modeF p.2 = signsF p.2 ∧ ((at0 (modeF p.2) 0 = Str.ofString "-" ∧ at0 (modeF p.2) 7 = Str.ofString "r") ↔ (p.2.fdiv 4096 = 8 ∧ (p.2.fdiv 4).fmod 2 = 1)) := by decide +kernel
theorem mode_site {x : Str} {m : Int} (h : siteF x = some m) : (modeF m).length = 10 ∧ Printable (modeF m) ∧ modeF m = signsF m ∧ ((at0 (modeF m) 0 = Str.ofString "-" ∧ at0 (modeF m) 7 = Str.ofString "r") ↔ (m.fdiv 4096 = 8 ∧ (m.fdiv 4).fmod 2 = 1)) := by
  obtain ⟨p, hp, rfl, rfl⟩ := site_mem h
  exact mode_all p hp
theorem sign_item {prog : Program} {w : World} {A : Around} {E : Value → Shared → Prop} {s : Shared} {value slice : Expr} {x : Str} {i : Int} {t u : Tok} {Q : Value → Shared → Prop} (h0 : 0 ≤ i) (hi : i < 10) (hx : x.length = 10) (h : ∀ t', Q (.str (at0 x i.toNat) t') { s with toks := s.toks + 1 })
    (hs : subscripted slice false (.str x t) (.int i u) = operate [.str x t, .int i u] (getItem (.str x t) (.int i u)) := by with_unfolding_all rfl) :
    wpAny (model prog w) A (subscriptTail value slice (.str x t) (.int i u)) Q E s := by
  have hn : i.toNat < x.cps.size := by have : x.cps.size = 10 := hx; omega
  refine tail_any (T := "str") (typeIs_str s x t) F.slot_str_getitem.lookup (P.getItem_str (c := x.cps.getD i.toNat 0) ?_ ?_ (h _)) hs
  · rw [Bool.or_eq_false_iff]
    exact ⟨decide_eq_false (by omega), decide_eq_false (by omega)⟩
  · have e : seqIndex? i x.length = some i.toNat := by
      have hn0 : ¬ i < 0 := by omega
      have hlt : i < (x.length : Int) := by omega
      simp only [seqIndex?, hn0, if_false, h0, hlt, decide_true, Bool.and_self, if_true]
    rw [e]
    show x.cps[i.toNat]? = _
    rw [Array.getElem?_eq_getElem hn]
    simp [Array.getD, hn]
noncomputable def baseF (x : Str) : Str := Txt.slice x (some (Txt.rfind x (Str.ofString "/") + 1)) none
noncomputable def cdA (x : Str) : Str := Txt.join (Str.ofString "; ") [Str.ofString "attachment", fmtF (Str.ofString "filename") (baseF x), fmtF (Str.ofString "size-of") (Str.ofString "1 k"), Str.ofString "inline"]
noncomputable def rowsA (d : Str) : List (Str × Str) :=
  (if normF d ≠ d then [(Str.ofString "Location", normF d)] else []) ++ (match siteF (normF d) with
    | none => [(Str.ofString "Status", Str.ofString "404")]
    | some m => (Str.ofString "X-Mode", modeF m) :: (if at0 (modeF m) 0 = Str.ofString "-" ∧ at0 (modeF m) 7 = Str.ofString "r" then [(Str.ofString "Content-Disposition", cdA (normF d))] else []))
theorem arow_a {d : Str} (hp : (normF d != d) = true) (hs : siteF (normF d) = none) : rowsA d = [(Str.ofString "Location", normF d), (Str.ofString "Status", Str.ofString "404")] := by
  unfold rowsA; rw [if_pos (by simpa using hp), hs]; rfl
theorem arow_b {d : Str} (hp : (normF d != d) = false) (hs : siteF (normF d) = none) : rowsA d = [(Str.ofString "Status", Str.ofString "404")] := by
  unfold rowsA; rw [if_neg (by simpa using hp), hs]; rfl
theorem arow_c {d : Str} {m : Int} (hp : (normF d != d) = true) (hs : siteF (normF d) = some m) (hc : (at0 (modeF m) (Int.toNat 0) == Str.ofString "-") = false ∨ (at0 (modeF m) (Int.toNat 7) == Str.ofString "r") = false) : rowsA d = [(Str.ofString "Location", normF d), (Str.ofString "X-Mode", modeF m)] := by
  have hc : (at0 (modeF m) 0 == Str.ofString "-") = false ∨ (at0 (modeF m) 7 == Str.ofString "r") = false := hc
  unfold rowsA; rw [if_pos (by simpa using hp), hs]
  show _ ++ (_ :: (if _ then _ else _)) = _
  rw [if_neg (fun hq => hc.elim (fun h => by rw [hq.1] at h; simp at h) (fun h => by rw [hq.2] at h; simp at h))]; rfl
theorem arow_d {d : Str} {m : Int} (hp : (normF d != d) = false) (hs : siteF (normF d) = some m) (hc : (at0 (modeF m) (Int.toNat 0) == Str.ofString "-") = false ∨ (at0 (modeF m) (Int.toNat 7) == Str.ofString "r") = false) : rowsA d = [(Str.ofString "X-Mode", modeF m)] := by
  have hc : (at0 (modeF m) 0 == Str.ofString "-") = false ∨ (at0 (modeF m) 7 == Str.ofString "r") = false := hc
  unfold rowsA; rw [if_neg (by simpa using hp), hs]
  show _ ++ (_ :: (if _ then _ else _)) = _
  rw [if_neg (fun hq => hc.elim (fun h => by rw [hq.1] at h; simp at h) (fun h => by rw [hq.2] at h; simp at h))]; rfl
theorem arow_e {d : Str} {m : Int} (hp : (normF d != d) = true) (hs : siteF (normF d) = some m) (h1 : (at0 (modeF m) (Int.toNat 0) == Str.ofString "-") = true) (h2 : (at0 (modeF m) (Int.toNat 7) == Str.ofString "r") = true) : rowsA d = [(Str.ofString "Location", normF d), (Str.ofString "X-Mode", modeF m), (Str.ofString "Content-Disposition", cdA (normF d))] := by
  have h1 : (at0 (modeF m) 0 == Str.ofString "-") = true := h1
  have h2 : (at0 (modeF m) 7 == Str.ofString "r") = true := h2
  unfold rowsA; rw [if_pos (by simpa using hp), hs]
  show _ ++ (_ :: (if _ then _ else _)) = _
  rw [if_pos ⟨by simpa using h1, by simpa using h2⟩]; rfl
theorem arow_f {d : Str} {m : Int} (hp : (normF d != d) = false) (hs : siteF (normF d) = some m) (h1 : (at0 (modeF m) (Int.toNat 0) == Str.ofString "-") = true) (h2 : (at0 (modeF m) (Int.toNat 7) == Str.ofString "r") = true) : rowsA d = [(Str.ofString "X-Mode", modeF m), (Str.ofString "Content-Disposition", cdA (normF d))] := by
  have h1 : (at0 (modeF m) 0 == Str.ofString "-") = true := h1
  have h2 : (at0 (modeF m) 7 == Str.ofString "r") = true := h2
  unfold rowsA; rw [if_neg (by simpa using hp), hs]
  show _ ++ (_ :: (if _ then _ else _)) = _
  rw [if_pos ⟨by simpa using h1, by simpa using h2⟩]; rfl
theorem rowsA_len (d : Str) : (rowsA d).length ≤ 3 := by
  unfold rowsA
  rw [List.length_append]
  have h1 : (if normF d ≠ d then [(Str.ofString "Location", normF d)] else []).length ≤ 1 := by split <;> simp
  have h2 : (match siteF (normF d) with
    | none => [(Str.ofString "Status", Str.ofString "404")]
    | some m => (Str.ofString "X-Mode", modeF m) :: (if at0 (modeF m) 0 = Str.ofString "-" ∧ at0 (modeF m) 7 = Str.ofString "r" then [(Str.ofString "Content-Disposition", cdA (normF d))] else [])).length ≤ 2 := by
    split
    · simp
    · rw [List.length_cons]; split <;> simp
  omega
noncomputable def Led4 (lst self dx l : Addr) (rest own : List (Addr × Obj)) : Prop := OwnOff rest [lst, self, dx, l] ∧ OwnOff own (lst :: self :: dx :: l :: rest.map (·.1)) ∧ (lst ≠ self ∧ lst ≠ dx ∧ dx ≠ self ∧ lst ≠ l ∧ self ≠ l ∧ dx ≠ l)
theorem led4_add {lst self dx l T : Addr} {rest own : List (Addr × Obj)} {lo : Obj} {o : Obj} (hL : Led4 lst self dx l rest own) (h1 : T ≠ lst) (h2 : T ≠ self) (h3 : T ≠ dx) (h4 : ∀ p ∈ (l, lo) :: (rest ++ own), @Ne Nat p.1 T) : Led4 lst self dx l ((T, o) :: rest) own := by
  refine ⟨fun p hp b hb => ?_, fun p hp b hb => ?_, hL.2.2⟩
  · rcases List.mem_cons.mp hp with rfl | hp
    · rcases List.mem_cons.mp hb with rfl | hb
      · exact h1
      · rcases List.mem_cons.mp hb with rfl | hb
        · exact h2
        · rcases List.mem_cons.mp hb with rfl | hb
          · exact h3
          · rw [List.mem_singleton.mp hb]; exact Ne.symm (h4 _ (.head _))
    · exact hL.1 p hp b hb
  · rcases List.mem_cons.mp hb with rfl | hb
    · exact hL.2.1 p hp _ (.head _)
    · rcases List.mem_cons.mp hb with rfl | hb
      · exact hL.2.1 p hp _ (.tail _ (.head _))
      · rcases List.mem_cons.mp hb with rfl | hb
        · exact hL.2.1 p hp _ (.tail _ (.tail _ (.head _)))
        · rcases List.mem_cons.mp hb with rfl | hb
          · exact hL.2.1 p hp _ (.tail _ (.tail _ (.tail _ (.head _))))
          · rcases List.mem_cons.mp hb with rfl | hb
            · exact h4 p (.tail _ (List.mem_append_right _ hp))
            · exact hL.2.1 p hp b (.tail _ (.tail _ (.tail _ (.tail _ hb))))
theorem led4_off {lst self dx l : Addr} {rest own : List (Addr × Obj)} {lo : Obj} (hL : Led4 lst self dx l rest own) : OwnOff ((l, lo) :: (rest ++ own)) [lst, self, dx] := by
  intro p hp b hb
  have hb3 : b = lst ∨ b = self ∨ b = dx := by simpa using hb
  rcases List.mem_cons.mp hp with rfl | hp
  · rcases hb3 with rfl | rfl | rfl
    · exact Ne.symm hL.2.2.2.2.2.1
    · exact Ne.symm hL.2.2.2.2.2.2.1
    · exact Ne.symm hL.2.2.2.2.2.2.2
  · rcases List.mem_append.mp hp with hp | hp
    · exact hL.1 p hp b (by rcases hb3 with rfl | rfl | rfl; exact .head _; exact .tail _ (.head _); exact .tail _ (.tail _ (.head _)))
    · exact hL.2.1 p hp b (by rcases hb3 with rfl | rfl | rfl; exact .head _; exact .tail _ (.head _); exact .tail _ (.tail _ (.head _)))

theorem at_O2 : True := by w_top off; trivial
section
variable {w : World} {mean : ExcName → Option Value} {mg mb : Str → Option Value} {dp un : Nat} {gd : Option (List Code)} {cn : Str} {cs : Scope} {a : Addr} {ccd : Value} {cl : List (Str × Addr)} {outer : List Env} {A₀ : Around} {base h₀ : Heap} {L : Addr} {m : Str → Option Value} {s : Shared} {Q E : Value → Shared → Prop}
  {self dx l lst : Addr} {us : List Value} {n : Nat} {th : Tok} {rest own news : List (Addr × Obj)} {rows : List (Str × Str)} {lo : Obj}
theorem add_row0 {nm x : Str} {t1 t2 : Tok} (hL : Led4 lst self dx l rest own) (hI : RowsIn rest us rows) (hnl : nm.length ≤ 1000) (hnp : Printable nm) (hxl : x.length ≤ 10000) (hxp : Printable x) (hus : us.length ≤ 1000)
    (B : Below A₀ base outer h₀) (F : Fr h₀ L s.heap m) (X : (Mine.hd.heap_39 w.params).In h₀) (T : Top Mine.view lse mean mg mb h₀) (hk : cs.kind = .function) (hd : dp + 2 < recursionLimit) (hu : un + 16 < cLine)
    (N : News h₀ L s.heap news) (m1 : (lst, listOf us.toArray n) ∈ news) (m2 : (self, instObj 182 dx) ∈ news) (m3 : (dx, hdDict w th lst) ∈ news) (m4 : (l, lo) ∈ news) (m5 : ∀ p ∈ rest ++ own, p ∈ news)
    (h : ∀ h' tk' T n' rest', Fr h₀ L h' m → News h₀ L h' ((lst, listOf (us ++ [Value.ref T]).toArray n') :: (self, instObj 182 dx) :: (dx, hdDict w th lst) :: (l, lo) :: (rest' ++ own)) → Led4 lst self dx l rest' own → RowsIn rest' (us ++ [Value.ref T]) (rows ++ [(nm, x)]) → Q .none { s with heap := h', toks := tk' }) :
    wpAny (model PySem.Challenge.rw_ny0294_01.row.prog w) (ktrTop dp un gd cn cs L a ccd cl outer) (call (.ref 179) [.ref self, .str nm t1, .str x t2]) Q E s := by
  refine add0_c w self dx lst us n th nm x t1 t2 ((l, lo) :: (rest ++ own)) hnl hnp hxl hxp hus (led4_off hL) hL.2.2.1 hL.2.2.2.1 hL.2.2.2.2.1 mean mg mb dp un gd cn cs a ccd cl outer A₀ base h₀ L m s Q E B F X T hk hd hu (fun p hp => ?_) fun T t3 t4 h' tk' n' F' N' hne => h h' tk' T n' ((T, tupObj [.str nm t3, .str x t4]) :: rest) F' (fun p hp => ?_) (led4_add hL (Ne.symm (hne _ (.head _))) (Ne.symm (hne _ (.tail _ (.head _)))) (Ne.symm (hne _ (.tail _ (.tail _ (.head _))))) fun p hp => hne p (.tail _ (.tail _ (.tail _ hp)))) ((hI.mono fun p hp => .tail _ hp).snoc (.head _))
  · rcases List.mem_cons.mp hp with rfl | hp
    · exact N _ m1
    · rcases List.mem_cons.mp hp with rfl | hp
      · exact N _ m2
      · rcases List.mem_cons.mp hp with rfl | hp
        · exact N _ m3
        · rcases List.mem_cons.mp hp with rfl | hp
          · exact N _ m4
          · exact N _ (m5 p hp)
  · rcases List.mem_cons.mp hp with rfl | hp
    · exact N' _ (.tail _ (.head _))
    · rcases List.mem_cons.mp hp with rfl | hp
      · exact N' _ (.tail _ (.tail _ (.head _)))
      · rcases List.mem_cons.mp hp with rfl | hp
        · exact N' _ (.tail _ (.tail _ (.tail _ (.head _))))
        · rcases List.mem_cons.mp hp with rfl | hp
          · exact N' _ (.tail _ (.tail _ (.tail _ (.tail _ (.head _)))))
          · rcases List.mem_cons.mp hp with rfl | hp
            · exact N' _ (.head _)
            · exact N' _ (.tail _ (.tail _ (.tail _ (.tail _ (.tail _ hp)))))
theorem add_row3 {b : Str} {t1 t2 t3 t4 : Tok} (hL : Led4 lst self dx l rest own) (hI : RowsIn rest us rows) (hxl : b.length ≤ 1000) (hxp : Printable b) (hus : us.length ≤ 1000)
    (B : Below A₀ base outer h₀) (F : Fr h₀ L s.heap m) (X : (Mine.hd.heap_39 w.params).In h₀) (T : Top Mine.view lse mean mg mb h₀) (hk : cs.kind = .function) (hd : dp + 2 < recursionLimit) (hu : un + 16 < cLine)
    (N : News h₀ L s.heap news) (m1 : (lst, listOf us.toArray n) ∈ news) (m2 : (self, instObj 182 dx) ∈ news) (m3 : (dx, hdDict w th lst) ∈ news) (m4 : (l, lo) ∈ news) (m5 : ∀ p ∈ rest ++ own, p ∈ news)
    (h : ∀ h' tk' T n' rest', Fr h₀ L h' m → News h₀ L h' ((lst, listOf (us ++ [Value.ref T]).toArray n') :: (self, instObj 182 dx) :: (dx, hdDict w th lst) :: (l, lo) :: (rest' ++ own)) → Led4 lst self dx l rest' own → RowsIn rest' (us ++ [Value.ref T]) (rows ++ [(Str.ofString "Content-Disposition", Txt.join (Str.ofString "; ") [Str.ofString "attachment", fmtF (Str.ofString "filename") b, fmtF (Str.ofString "size-of") (Str.ofString "1 k"), Str.ofString "inline"])]) → Q .none { s with heap := h', toks := tk' }) :
    wpAny (model PySem.Challenge.rw_ny0294_01.row.prog w) (ktrTop dp un gd cn cs L a ccd cl outer) (call (.ref 179) [.ref self, .str (Str.ofString "Content-Disposition") t1, .str (Str.ofString "attachment") t2] [(Str.ofString "filename", .str b t3), (Str.ofString "size_of", .str (Str.ofString "1 k") t4), (Str.ofString "inline", .none)]) Q E s := by
  refine add3_c w self dx lst us n th b t1 t2 t3 t4 ((l, lo) :: (rest ++ own)) hxl hxp hus (led4_off hL) hL.2.2.1 hL.2.2.2.1 hL.2.2.2.2.1 mean mg mb dp un gd cn cs a ccd cl outer A₀ base h₀ L m s Q E B F X T hk hd hu (fun p hp => ?_) fun T t3 t4 h' tk' n' F' N' hne => h h' tk' T n' ((T, tupObj [.str (Str.ofString "Content-Disposition") t3, .str (Txt.join (Str.ofString "; ") [Str.ofString "attachment", fmtF (Str.ofString "filename") b, fmtF (Str.ofString "size-of") (Str.ofString "1 k"), Str.ofString "inline"]) t4]) :: rest) F' (fun p hp => ?_) (led4_add hL (Ne.symm (hne _ (.head _))) (Ne.symm (hne _ (.tail _ (.head _)))) (Ne.symm (hne _ (.tail _ (.tail _ (.head _))))) fun p hp => hne p (.tail _ (.tail _ (.tail _ hp)))) ((hI.mono fun p hp => .tail _ hp).snoc (.head _))
  · rcases List.mem_cons.mp hp with rfl | hp
    · exact N _ m1
    · rcases List.mem_cons.mp hp with rfl | hp
      · exact N _ m2
      · rcases List.mem_cons.mp hp with rfl | hp
        · exact N _ m3
        · rcases List.mem_cons.mp hp with rfl | hp
          · exact N _ m4
          · exact N _ (m5 p hp)
  · rcases List.mem_cons.mp hp with rfl | hp
    · exact N' _ (.tail _ (.head _))
    · rcases List.mem_cons.mp hp with rfl | hp
      · exact N' _ (.tail _ (.tail _ (.head _)))
      · rcases List.mem_cons.mp hp with rfl | hp
        · exact N' _ (.tail _ (.tail _ (.tail _ (.head _))))
        · rcases List.mem_cons.mp hp with rfl | hp
          · exact N' _ (.tail _ (.tail _ (.tail _ (.tail _ (.head _)))))
          · rcases List.mem_cons.mp hp with rfl | hp
            · exact N' _ (.head _)
            · exact N' _ (.tail _ (.tail _ (.tail _ (.tail _ (.tail _ hp)))))
noncomputable def AnsSt (lst self dx l : Addr) (w : World) (th : Tok) (lo : Obj) (f : Str → List (Str × Str)) (pre : List Str) (nx : List (Addr × Obj)) : Prop := ∃ us n rest, nx = (lst, listOf us.toArray n) :: (self, instObj 182 dx) :: (dx, hdDict w th lst) :: (l, lo) :: rest ∧ Led4 lst self dx l rest [] ∧ RowsIn rest us (pre.flatMap f)
theorem ans_end {x : Str} {m₀ m' : Str → Option Value} {stored : List Str} {f : Str → List (Str × Str)} {pre : List Str} {news' : List (Addr × Obj)} {s₁ : Shared} {h' : Heap} {tk : Nat} (hL : Led4 lst self dx l rest own) (hI : RowsIn rest us rows) (F : Fr h₀ L h' m') (N : News h₀ L h' news')
    (m1 : (lst, listOf us.toArray n) ∈ news') (m2 : (self, instObj 182 dx) ∈ news') (m3 : (dx, hdDict w th lst) ∈ news') (m4 : (l, lo) ∈ news') (m5 : ∀ p ∈ rest ++ own, p ∈ news') (hm : ∀ z, z ≠ x → stored.contains z = false → m' z = m₀ z) (e : rows = pre.flatMap f) : InvEndG h₀ L (JG l lo x stored m₀ (AnsSt lst self dx l w th lo f) pre) own s₁ { s₁ with heap := h', toks := tk } :=
  endG ((lst, listOf us.toArray n) :: (self, instObj 182 dx) :: (dx, hdDict w th lst) :: (l, lo) :: rest) hL.2.1 F N (List.forall_mem_cons.mpr ⟨m1, List.forall_mem_cons.mpr ⟨m2, List.forall_mem_cons.mpr ⟨m3, List.forall_mem_cons.mpr ⟨m4, fun p hp => m5 p (List.mem_append_left _ hp)⟩⟩⟩⟩) (fun p hp => m5 p (List.mem_append_right _ hp)) hm (.tail _ (.tail _ (.tail _ (.head _)))) ⟨us, n, rest, rfl, ⟨hL.1, (fun _ hp => nomatch hp), hL.2.2⟩, by rw [← e]; exact hI⟩
end

theorem at_O3 : True := by w_top off; trivial
theorem pick4 {h₀ h : Heap} {L : Addr} {news : List (Addr × Obj)} {a b c d : Addr × Obj} (N : News h₀ L h news) (ha : a ∈ news) (hb : b ∈ news) (hc : c ∈ news) (hd : d ∈ news) : News h₀ L h [a, b, c, d] :=
  List.forall_mem_cons.mpr ⟨N _ ha, List.forall_mem_cons.mpr ⟨N _ hb, List.forall_mem_cons.mpr ⟨N _ hc, List.forall_mem_cons.mpr ⟨N _ hd, fun _ hp => nomatch hp⟩⟩⟩⟩
theorem drop_l {h₀ h : Heap} {L : Addr} {a b c d : Addr × Obj} {rest : List (Addr × Obj)} (N : News h₀ L h (a :: b :: c :: d :: rest)) : News h₀ L h (a :: b :: c :: rest) := by
  intro p hp
  refine N p ?_
  rcases List.mem_cons.mp hp with rfl | hp
  · exact .head _
  · rcases List.mem_cons.mp hp with rfl | hp
    · exact .tail _ (.head _)
    · rcases List.mem_cons.mp hp with rfl | hp
      · exact .tail _ (.tail _ (.head _))
      · exact .tail _ (.tail _ (.tail _ (.tail _ hp)))
theorem ans_out {w : World} {h₀ h' : Heap} {L self dx lst l : Addr} {us : List Value} {n : Nat} {rest : List (Addr × Obj)} {th : Tok} {lo : Obj} {rows : List (Str × Str)} (N : News h₀ L h' ((lst, listOf us.toArray n) :: (self, instObj 182 dx) :: (dx, hdDict w th lst) :: (l, lo) :: rest)) (hI : RowsIn rest us rows) :
    ∃ self' dx lst us n rest th, Value.ref self = .ref self' ∧ News h₀ L h' ((lst, listOf us.toArray n) :: (self', instObj 182 dx) :: (dx, hdDict w th lst) :: rest) ∧ RowsIn rest us rows := ⟨self, dx, lst, us, n, rest, th, rfl, drop_l N, hI⟩
section
local macro_rules | `(tactic| walk_at "exec For Name Name cons nil") => `(tactic| (k_here; refine Hold.out ?_))
local macro_rules | `(tactic| walk_at "InvEndG") => `(tactic| refine Hold.out ?_)
theorem answered_c (w : World) (l : Addr) (vs : List Value) (n : Nat) (ds : List Str) (hi : StrsAre vs ds) (hn : ds.length ≤ 15) (hd : ∀ d ∈ ds, d.length ≤ 100 ∧ (normF d).length ≤ 1000 ∧ Printable (normF d) ∧ (baseF (normF d)).length ≤ 1000 ∧ Printable (baseF (normF d))) : PureN 4 w 353 [.ref l] [(l, listOf vs.toArray n)] (fun h₀ L h' v => ∃ self dx lst us n rest th, v = .ref self ∧ News h₀ L h' ((lst, listOf us.toArray n) :: (self, instObj 182 dx) :: (dx, hdDict w th lst) :: rest) ∧ RowsIn rest us (ds.flatMap rowsA)) := by
  ((intro mean9z mg9z mb9z dp9z un9z gd9z cn9z cs9z a9z ccd9z cl9z outer9z A₀9z base9z h₀9z L9z m9z s9z Q9z E9z B9z F9z X9z T9z hk9z hdp9z hun9z hN09z hret9z; have kM9z := kdMark; refine wpAny_call ?_; k_dflt (((refine' code_defG ?k1 ?k2 ?k3 ?k4 ?k5 ?kA ?kF ?kK ?k6 ?k7 ?k8 ?k9 ?kB ?_ ?c2 ?c3 ?c4 ?c5; (((case kA => exact rfl); (case kF => exact rfl); (case kK => first | exact rfl | assumption); (case k1 => k_asm); (case k2 => k_asm); (case k3 => k_asm); (try (case k4 => k_asm)); (case k5 => k_asm); (case k6 => k_is); (case k7 => k_is); (case k8 => ktr_room); (try (case k9 => first | exact BindsTo.of_eq rfl | (refine' kp_binds ?kx ?ke; (case kx => k_in); (case ke => exact fun _ => rfl)))))); (((try (case c5 => decide)); (try (case kB => exact locs rfl)); (case c2 => exact rfl); (case c3 => exact rfl); (case c4 => exact rfl); k_whole)); intro g9z L9z h9z FG9z F9z N9z B9z X9z T9z GS9z; (try dsimp only); (try k_lift B9z); (try k_fold))))))
  repeat' (first | (k_unfold; (try dsimp only)) | (k_end; wrow_close) | ((fail_if_success (with_reducible show wpAny _ _ _ _ _ _)); dsimp only) | with_reducible (k_here; (with_reducible show wpAny _ _ (subscriptTail _ _ (Value.str (modeF _) _) (Value.int _ _)) _ _ _); k_dflt (refine' sign_item (by decide) (by decide) (mode_site (by with_reducible assumption)).1 ?_ ?z; (case z => with_unfolding_all rfl)); intro t99z) | with_reducible (k_here; (with_reducible show wpAny _ _ (call (Value.ref 179) [Value.ref _, Value.str _ _, Value.str _ _] (List.zip _ _)) _ _ _); (rename Led4 _ _ _ _ _ _ => hL99z); (rename RowsIn _ _ _ => hI99z); k_dflt (refine' add_row3 hL99z hI99z ?xl ?xp ?z ?k1 ?k2 ?k3 ?k5 ?kK ?kd ?ku ?kN ?m1 ?m2 ?m3 ?m4 ?m5 ?_; (case xl => (first | with_reducible assumption | exact Nat.le_trans (Nat.le_of_eq (mode_site (by with_reducible assumption)).1) (by decide) | exact Nat.le_of_ble_eq_true rfl)); (case xp => (first | with_reducible assumption | exact (mode_site (by with_reducible assumption)).2.1 | (unfold Printable; decide +kernel))); (((case k1 => k_asm); (case k2 => k_asm); (case k3 => k_asm); (case k5 => k_asm); (case kK => first | exact rfl | assumption); (case kd => ktr_room); (case ku => ktr_units); (case kN => k_asm); (case m1 => k_mem); (case m2 => k_mem); (case m3 => k_mem); (case m4 => k_mem); (case m5 => exact fun p hp => by repeat (first | exact hp | refine List.Mem.tail _ ?_)); (case z => first | omega | (simp only [List.length_append, List.length_cons, List.length_nil]; omega))))); clear hL99z hI99z; intro h9z tk9z T99z n99z rest99z F9z N9z hL99z hI99z; (try dsimp only); (try k_fold)) | with_reducible (k_here; (with_reducible show wpAny _ _ (call (Value.ref 179) [Value.ref _, Value.str _ _, Value.str _ _]) _ _ _); (rename Led4 _ _ _ _ _ _ => hL99z); (rename RowsIn _ _ _ => hI99z); k_dflt (refine' add_row0 hL99z hI99z ?nl ?np ?xl ?xp ?z ?k1 ?k2 ?k3 ?k5 ?kK ?kd ?ku ?kN ?m1 ?m2 ?m3 ?m4 ?m5 ?_; (case nl => (first | with_reducible assumption | exact Nat.le_trans (Nat.le_of_eq (mode_site (by with_reducible assumption)).1) (by decide) | exact Nat.le_of_ble_eq_true rfl)); (case np => (first | with_reducible assumption | exact (mode_site (by with_reducible assumption)).2.1 | (unfold Printable; decide +kernel))); (case xl => (first | with_reducible assumption | exact Nat.le_trans (Nat.le_of_eq (mode_site (by with_reducible assumption)).1) (by decide) | exact Nat.le_of_ble_eq_true rfl)); (case xp => (first | with_reducible assumption | exact (mode_site (by with_reducible assumption)).2.1 | (unfold Printable; decide +kernel))); (((case k1 => k_asm); (case k2 => k_asm); (case k3 => k_asm); (case k5 => k_asm); (case kK => first | exact rfl | assumption); (case kd => ktr_room); (case ku => ktr_units); (case kN => k_asm); (case m1 => k_mem); (case m2 => k_mem); (case m3 => k_mem); (case m4 => k_mem); (case m5 => exact fun p hp => by repeat (first | exact hp | refine List.Mem.tail _ ?_)); (case z => first | omega | (simp only [List.length_append, List.length_cons, List.length_nil]; omega))))); clear hL99z hI99z; intro h9z tk9z T99z n99z rest99z F9z N9z hL99z hI99z; (try dsimp only); (try k_fold)) | with_reducible (k_here; (with_reducible show wpAny _ _ (call (Value.ref 280) [Value.str _ _]) _ _ _); k_dflt (refine' Pure.use (basename_c _ _ _ ?kx) ?k1 ?k2 ?k3 ?k4 ?k5 ?kK ?kd ?ku trivial ?_; (case kx => walk_at "my len"); (((case k1 => k_asm); (case k2 => k_asm); (case k3 => k_asm); (case k4 => k_asm); (case k5 => k_asm); (case kK => first | exact rfl | assumption); (case kd => ktr_room); (case ku => ktr_units)))); intro v99z h99z tk99z F99z N99z e99z; (obtain ⟨t99z, e99z⟩ := e99z); (cases e99z); (try dsimp only); (try k_fold)) | with_reducible (k_here; (with_reducible show wpAny _ _ (call (Value.ref 334) [Value.int _ _]) _ _ _); k_dflt (refine' Pure.use (filemode_c _ _ _) ?k1 ?k2 ?k3 ?k4 ?k5 ?kK ?kd ?ku trivial ?_; (((case k1 => k_asm); (case k2 => k_asm); (case k3 => k_asm); (case k4 => k_asm); (case k5 => k_asm); (case kK => first | exact rfl | assumption); (case kd => ktr_room); (case ku => ktr_units)))); intro v99z h99z tk99z F99z N99z e99z; (obtain ⟨t99z, e99z⟩ := e99z); (cases e99z); (try dsimp only); (try k_fold)) | with_reducible (k_here; (with_reducible show wpAny _ _ (call (Value.ref 287) [Value.str _ _]) _ _ _); k_dflt (refine' Pure.use (normpath_c _ _ _ ?kx) ?k1 ?k2 ?k3 ?k4 ?k5 ?kK ?kd ?ku trivial ?_; (case kx => walk_at "my len"); (((case k1 => k_asm); (case k2 => k_asm); (case k3 => k_asm); (case k4 => k_asm); (case k5 => k_asm); (case kK => first | exact rfl | assumption); (case kd => ktr_room); (case ku => ktr_units)))); intro v99z h99z tk99z F99z N99z e99z; (obtain ⟨t99z, e99z⟩ := e99z); (cases e99z); (try dsimp only); (try k_fold)) | with_reducible (k_here; (with_reducible show wpAny _ _ (call (Value.ref 182) [Value.ref _]) _ _ _); k_dflt (refine' call_cls ?k1 ?k2 ?k3 ?k4 ?k5 ?k6 ?_; (case k1 => k_asm); (case k2 => k_asm); (case k3 => k_asm); (case k4 => k_is); (case k5 => k_is); (case k6 => k_is); k_whole; intro x9z d9z h9z F9z N9z l19z l29z; (try k_lt l19z); (try k_lt2 l29z); (try k_sweep); ((refine' code_def ?k1 ?k2 ?k3 ?k4 ?k5 ?kA ?kF ?kK ?k6 ?k7 ?k8 ?k9 ?kB ?_ ?c2 ?c3 ?c4 ?c5; (((case kA => exact rfl); (case kF => exact rfl); (case kK => first | exact rfl | assumption); (case k1 => k_asm); (case k2 => k_asm); (case k3 => k_asm); (try (case k4 => k_asm)); (case k5 => k_asm); (case k6 => k_is); (case k7 => k_is); (case k8 => ktr_room); (try (case k9 => first | exact BindsTo.of_eq rfl | (refine' kp_binds ?kx ?ke; (case kx => k_in); (case ke => exact fun _ => rfl)))))); (((try (case c5 => decide)); (try (case kB => exact locs rfl)); (case c2 => exact rfl); (case c3 => exact rfl); (case c4 => exact rfl); k_whole)); intro g9z L9z h9z FG9z F9z N9z B9z X9z T9z; (try dsimp only); (try k_lift B9z); (try k_fold))))) | with_reducible (k_here; (with_reducible show wpAny _ _ (call (Value.builtin "dict.get") [Value.ref _, Value.str _ _]) _ _ _); k_dflt (refine site_get (by assumption) ?_ ?_); first | (intro m99z t99z hm99z hm09z hm19z) | (intro hm99z)) | with_reducible (k_here; (with_reducible show wpAny _ _ (getMethod (Value.ref _) (Str.ofString "get") _) _ _ _); k_dflt (refine getMethod_strTab_get (by assumption) ?_)) | with_reducible (k_here; (with_reducible show wpAny _ _ (call (Value.ref 341) _) _ _ _); k_dflt (refine' Pure.use (site_c _) ?k1 ?k2 ?k3 ?k4 ?k5 ?kK ?kd ?ku trivial ?_; (((case k1 => k_asm); (case k2 => k_asm); (case k3 => k_asm); (case k4 => k_asm); (case k5 => k_asm); (case kK => first | exact rfl | assumption); (case kd => ktr_room); (case ku => ktr_units)))); intro v99z h99z tk99z F99z N99z e99z; (obtain ⟨D99z, e99z, n99z, T99z⟩ := e99z); (cases e99z); (clear n99z); (try dsimp only); (try k_fold)) | walk1 | (dsimp only; walk1) | (leave1; walk_say "STEP leave1"; try dsimp only))
  unfold Hold
  (refine' For_invVF (m := ?mm) ?F ?k1 ?k2 ?_ ?hs ?hE; (case F => k_asm); (case k1 => exact rfl); (case k2 => exact rfl); (case hE => passes_own); (case hs => intro _; rfl); k_whole)
  walk1
  rename News _ _ _ _ => nN
  have nN2 := pick4 (a := (_, listOf ([] : List Value).toArray 0)) (b := (_, instObj 182 _)) (c := (_, hdDict w _ _)) (d := (l, listOf vs.toArray n)) nN (by k_mem) (by k_mem) (by k_mem) (by k_mem)
  clear nN
  refine loopG (fun d t => Value.str d t) [Str.ofString "plain", Str.ofString "mode", Str.ofString "signs"] (AnsSt _ _ _ _ w _ _ rowsA) (strs_get hi) (strsAre_length hi) rfl (by k_asm) nN2 (by k_mem) ⟨_, _, [], rfl, ⟨(fun _ hp => nomatch hp), (fun _ hp => nomatch hp), ?_⟩, .nil⟩ ?_ ?_
  · refine ⟨?_, ?_, ?_, ?_, ?_, ?_⟩ <;> (show @Ne Nat _ _) <;> omega
  · intro nx pre d post t u h tk own e hoff hln hI F' N'
    obtain ⟨us, n9, rest, rfl, ho9, hI⟩ := hI
    simp only [List.cons_append] at N'
    obtain ⟨hdl, hnl, hnp, hbl, hbp⟩ := hd d (by rw [e]; simp)
    have hL : Led4 _ _ _ _ rest own := ⟨ho9.1, hoff, ho9.2.2⟩
    have hul : us.length ≤ 100 := by have h1 := hI.length; have h2 := rows_len rowsA_len pre; have h3 := congrArg List.length e; rw [List.length_append, List.length_cons] at h3; omega
    clear hoff ho9 hln
    have hnl2 : (normF d).length ≤ 10000 := Nat.le_trans hnl (by decide)
    have hnl3 : (normF d).length ≤ 100000 := Nat.le_trans hnl (by decide)
    unfold baseF at hbl hbp
    repeat' (first | (k_unfold; (try dsimp only)) | (k_end; wrow_close) | ((fail_if_success (with_reducible show wpAny _ _ _ _ _ _)); dsimp only) | with_reducible (k_here; (with_reducible show wpAny _ _ (subscriptTail _ _ (Value.str (modeF _) _) (Value.int _ _)) _ _ _); k_dflt (refine' sign_item (by decide) (by decide) (mode_site (by with_reducible assumption)).1 ?_ ?z; (case z => with_unfolding_all rfl)); intro t99z) | with_reducible (k_here; (with_reducible show wpAny _ _ (call (Value.ref 179) [Value.ref _, Value.str _ _, Value.str _ _] (List.zip _ _)) _ _ _); (rename Led4 _ _ _ _ _ _ => hL99z); (rename RowsIn _ _ _ => hI99z); k_dflt (refine' add_row3 hL99z hI99z ?xl ?xp ?z ?k1 ?k2 ?k3 ?k5 ?kK ?kd ?ku ?kN ?m1 ?m2 ?m3 ?m4 ?m5 ?_; (case xl => (first | with_reducible assumption | exact Nat.le_trans (Nat.le_of_eq (mode_site (by with_reducible assumption)).1) (by decide) | exact Nat.le_of_ble_eq_true rfl)); (case xp => (first | with_reducible assumption | exact (mode_site (by with_reducible assumption)).2.1 | (unfold Printable; decide +kernel))); (((case k1 => k_asm); (case k2 => k_asm); (case k3 => k_asm); (case k5 => k_asm); (case kK => first | exact rfl | assumption); (case kd => ktr_room); (case ku => ktr_units); (case kN => k_asm); (case m1 => k_mem); (case m2 => k_mem); (case m3 => k_mem); (case m4 => k_mem); (case m5 => exact fun p hp => by repeat (first | exact hp | refine List.Mem.tail _ ?_)); (case z => first | omega | (simp only [List.length_append, List.length_cons, List.length_nil]; omega))))); clear hL99z hI99z; intro h9z tk9z T99z n99z rest99z F9z N9z hL99z hI99z; (try dsimp only); (try k_fold)) | with_reducible (k_here; (with_reducible show wpAny _ _ (call (Value.ref 179) [Value.ref _, Value.str _ _, Value.str _ _]) _ _ _); (rename Led4 _ _ _ _ _ _ => hL99z); (rename RowsIn _ _ _ => hI99z); k_dflt (refine' add_row0 hL99z hI99z ?nl ?np ?xl ?xp ?z ?k1 ?k2 ?k3 ?k5 ?kK ?kd ?ku ?kN ?m1 ?m2 ?m3 ?m4 ?m5 ?_; (case nl => (first | with_reducible assumption | exact Nat.le_trans (Nat.le_of_eq (mode_site (by with_reducible assumption)).1) (by decide) | exact Nat.le_of_ble_eq_true rfl)); (case np => (first | with_reducible assumption | exact (mode_site (by with_reducible assumption)).2.1 | (unfold Printable; decide +kernel))); (case xl => (first | with_reducible assumption | exact Nat.le_trans (Nat.le_of_eq (mode_site (by with_reducible assumption)).1) (by decide) | exact Nat.le_of_ble_eq_true rfl)); (case xp => (first | with_reducible assumption | exact (mode_site (by with_reducible assumption)).2.1 | (unfold Printable; decide +kernel))); (((case k1 => k_asm); (case k2 => k_asm); (case k3 => k_asm); (case k5 => k_asm); (case kK => first | exact rfl | assumption); (case kd => ktr_room); (case ku => ktr_units); (case kN => k_asm); (case m1 => k_mem); (case m2 => k_mem); (case m3 => k_mem); (case m4 => k_mem); (case m5 => exact fun p hp => by repeat (first | exact hp | refine List.Mem.tail _ ?_)); (case z => first | omega | (simp only [List.length_append, List.length_cons, List.length_nil]; omega))))); clear hL99z hI99z; intro h9z tk9z T99z n99z rest99z F9z N9z hL99z hI99z; (try dsimp only); (try k_fold)) | with_reducible (k_here; (with_reducible show wpAny _ _ (call (Value.ref 280) [Value.str _ _]) _ _ _); k_dflt (refine' Pure.use (basename_c _ _ _ ?kx) ?k1 ?k2 ?k3 ?k4 ?k5 ?kK ?kd ?ku trivial ?_; (case kx => walk_at "my len"); (((case k1 => k_asm); (case k2 => k_asm); (case k3 => k_asm); (case k4 => k_asm); (case k5 => k_asm); (case kK => first | exact rfl | assumption); (case kd => ktr_room); (case ku => ktr_units)))); intro v99z h99z tk99z F99z N99z e99z; (obtain ⟨t99z, e99z⟩ := e99z); (cases e99z); (try dsimp only); (try k_fold)) | with_reducible (k_here; (with_reducible show wpAny _ _ (call (Value.ref 334) [Value.int _ _]) _ _ _); k_dflt (refine' Pure.use (filemode_c _ _ _) ?k1 ?k2 ?k3 ?k4 ?k5 ?kK ?kd ?ku trivial ?_; (((case k1 => k_asm); (case k2 => k_asm); (case k3 => k_asm); (case k4 => k_asm); (case k5 => k_asm); (case kK => first | exact rfl | assumption); (case kd => ktr_room); (case ku => ktr_units)))); intro v99z h99z tk99z F99z N99z e99z; (obtain ⟨t99z, e99z⟩ := e99z); (cases e99z); (try dsimp only); (try k_fold)) | with_reducible (k_here; (with_reducible show wpAny _ _ (call (Value.ref 287) [Value.str _ _]) _ _ _); k_dflt (refine' Pure.use (normpath_c _ _ _ ?kx) ?k1 ?k2 ?k3 ?k4 ?k5 ?kK ?kd ?ku trivial ?_; (case kx => walk_at "my len"); (((case k1 => k_asm); (case k2 => k_asm); (case k3 => k_asm); (case k4 => k_asm); (case k5 => k_asm); (case kK => first | exact rfl | assumption); (case kd => ktr_room); (case ku => ktr_units)))); intro v99z h99z tk99z F99z N99z e99z; (obtain ⟨t99z, e99z⟩ := e99z); (cases e99z); (try dsimp only); (try k_fold)) | with_reducible (k_here; (with_reducible show wpAny _ _ (call (Value.ref 182) [Value.ref _]) _ _ _); k_dflt (refine' call_cls ?k1 ?k2 ?k3 ?k4 ?k5 ?k6 ?_; (case k1 => k_asm); (case k2 => k_asm); (case k3 => k_asm); (case k4 => k_is); (case k5 => k_is); (case k6 => k_is); k_whole; intro x9z d9z h9z F9z N9z l19z l29z; (try k_lt l19z); (try k_lt2 l29z); (try k_sweep); ((refine' code_def ?k1 ?k2 ?k3 ?k4 ?k5 ?kA ?kF ?kK ?k6 ?k7 ?k8 ?k9 ?kB ?_ ?c2 ?c3 ?c4 ?c5; (((case kA => exact rfl); (case kF => exact rfl); (case kK => first | exact rfl | assumption); (case k1 => k_asm); (case k2 => k_asm); (case k3 => k_asm); (try (case k4 => k_asm)); (case k5 => k_asm); (case k6 => k_is); (case k7 => k_is); (case k8 => ktr_room); (try (case k9 => first | exact BindsTo.of_eq rfl | (refine' kp_binds ?kx ?ke; (case kx => k_in); (case ke => exact fun _ => rfl)))))); (((try (case c5 => decide)); (try (case kB => exact locs rfl)); (case c2 => exact rfl); (case c3 => exact rfl); (case c4 => exact rfl); k_whole)); intro g9z L9z h9z FG9z F9z N9z B9z X9z T9z; (try dsimp only); (try k_lift B9z); (try k_fold))))) | with_reducible (k_here; (with_reducible show wpAny _ _ (call (Value.builtin "dict.get") [Value.ref _, Value.str _ _]) _ _ _); k_dflt (refine site_get (by assumption) ?_ ?_); first | (intro m99z t99z hm99z hm09z hm19z) | (intro hm99z)) | with_reducible (k_here; (with_reducible show wpAny _ _ (getMethod (Value.ref _) (Str.ofString "get") _) _ _ _); k_dflt (refine getMethod_strTab_get (by assumption) ?_)) | with_reducible (k_here; (with_reducible show wpAny _ _ (call (Value.ref 341) _) _ _ _); k_dflt (refine' Pure.use (site_c _) ?k1 ?k2 ?k3 ?k4 ?k5 ?kK ?kd ?ku trivial ?_; (((case k1 => k_asm); (case k2 => k_asm); (case k3 => k_asm); (case k4 => k_asm); (case k5 => k_asm); (case kK => first | exact rfl | assumption); (case kd => ktr_room); (case ku => ktr_units)))); intro v99z h99z tk99z F99z N99z e99z; (obtain ⟨D99z, e99z, n99z, T99z⟩ := e99z); (cases e99z); (clear n99z); (try dsimp only); (try k_fold)) | walk1 | (dsimp only; walk1) | (leave1; walk_say "STEP leave1"; try dsimp only))
    all_goals unfold Hold
    all_goals ((with_reducible show InvEndG _ _ _ _ _ _); (rename Led4 _ _ _ _ _ _ => hL9); (rename RowsIn _ _ _ => hI9); (rename News _ _ _ _ => nN9); refine ans_end hL9 hI9 (by assumption) nN9 (by k_mem) (by k_mem) (by k_mem) (by k_mem) (fun p hp => by repeat (first | exact hp | refine List.Mem.tail _ ?_)) (fun z h1 h2 => by have h3 := cont3 h2; simp only [h1, h2, h3.1, h3.2.1, h3.2.2, if_false, Bool.false_eq_true]) ?_; (try simp only [List.append_assoc, List.cons_append, List.nil_append]); refine flat_snoc ?_)
    all_goals (first | with_reducible exact arow_a (by assumption) (by assumption) | with_reducible exact arow_b (by assumption) (by assumption) | with_reducible exact arow_c (by assumption) (by assumption) (.inl (by assumption)) | with_reducible exact arow_c (by assumption) (by assumption) (.inr (by assumption)) | with_reducible exact arow_d (by assumption) (by assumption) (.inl (by assumption)) | with_reducible exact arow_d (by assumption) (by assumption) (.inr (by assumption)) | (have hrw := arow_e (d := d) (by with_reducible assumption) (by with_reducible assumption) (by with_reducible assumption) (by with_reducible assumption); unfold cdA baseF at hrw; with_reducible exact hrw) | (have hrw := arow_f (d := d) (by with_reducible assumption) (by with_reducible assumption) (by with_reducible assumption) (by with_reducible assumption); unfold cdA baseF at hrw; with_reducible exact hrw))
  · intro nx u h tk hI F' N'
    obtain ⟨us, n9, rest, rfl, ho9, hI⟩ := hI
    rename GSub _ _ _ => GS9
    repeat' (first | (k_unfold; (try dsimp only)) | (k_end; wrow_close) | ((fail_if_success (with_reducible show wpAny _ _ _ _ _ _)); dsimp only) | with_reducible (k_here; (with_reducible show wpAny _ _ (subscriptTail _ _ (Value.str (modeF _) _) (Value.int _ _)) _ _ _); k_dflt (refine' sign_item (by decide) (by decide) (mode_site (by with_reducible assumption)).1 ?_ ?z; (case z => with_unfolding_all rfl)); intro t99z) | with_reducible (k_here; (with_reducible show wpAny _ _ (call (Value.ref 179) [Value.ref _, Value.str _ _, Value.str _ _] (List.zip _ _)) _ _ _); (rename Led4 _ _ _ _ _ _ => hL99z); (rename RowsIn _ _ _ => hI99z); k_dflt (refine' add_row3 hL99z hI99z ?xl ?xp ?z ?k1 ?k2 ?k3 ?k5 ?kK ?kd ?ku ?kN ?m1 ?m2 ?m3 ?m4 ?m5 ?_; (case xl => (first | with_reducible assumption | exact Nat.le_trans (Nat.le_of_eq (mode_site (by with_reducible assumption)).1) (by decide) | exact Nat.le_of_ble_eq_true rfl)); (case xp => (first | with_reducible assumption | exact (mode_site (by with_reducible assumption)).2.1 | (unfold Printable; decide +kernel))); (((case k1 => k_asm); (case k2 => k_asm); (case k3 => k_asm); (case k5 => k_asm); (case kK => first | exact rfl | assumption); (case kd => ktr_room); (case ku => ktr_units); (case kN => k_asm); (case m1 => k_mem); (case m2 => k_mem); (case m3 => k_mem); (case m4 => k_mem); (case m5 => exact fun p hp => by repeat (first | exact hp | refine List.Mem.tail _ ?_)); (case z => first | omega | (simp only [List.length_append, List.length_cons, List.length_nil]; omega))))); clear hL99z hI99z; intro h9z tk9z T99z n99z rest99z F9z N9z hL99z hI99z; (try dsimp only); (try k_fold)) | with_reducible (k_here; (with_reducible show wpAny _ _ (call (Value.ref 179) [Value.ref _, Value.str _ _, Value.str _ _]) _ _ _); (rename Led4 _ _ _ _ _ _ => hL99z); (rename RowsIn _ _ _ => hI99z); k_dflt (refine' add_row0 hL99z hI99z ?nl ?np ?xl ?xp ?z ?k1 ?k2 ?k3 ?k5 ?kK ?kd ?ku ?kN ?m1 ?m2 ?m3 ?m4 ?m5 ?_; (case nl => (first | with_reducible assumption | exact Nat.le_trans (Nat.le_of_eq (mode_site (by with_reducible assumption)).1) (by decide) | exact Nat.le_of_ble_eq_true rfl)); (case np => (first | with_reducible assumption | exact (mode_site (by with_reducible assumption)).2.1 | (unfold Printable; decide +kernel))); (case xl => (first | with_reducible assumption | exact Nat.le_trans (Nat.le_of_eq (mode_site (by with_reducible assumption)).1) (by decide) | exact Nat.le_of_ble_eq_true rfl)); (case xp => (first | with_reducible assumption | exact (mode_site (by with_reducible assumption)).2.1 | (unfold Printable; decide +kernel))); (((case k1 => k_asm); (case k2 => k_asm); (case k3 => k_asm); (case k5 => k_asm); (case kK => first | exact rfl | assumption); (case kd => ktr_room); (case ku => ktr_units); (case kN => k_asm); (case m1 => k_mem); (case m2 => k_mem); (case m3 => k_mem); (case m4 => k_mem); (case m5 => exact fun p hp => by repeat (first | exact hp | refine List.Mem.tail _ ?_)); (case z => first | omega | (simp only [List.length_append, List.length_cons, List.length_nil]; omega))))); clear hL99z hI99z; intro h9z tk9z T99z n99z rest99z F9z N9z hL99z hI99z; (try dsimp only); (try k_fold)) | with_reducible (k_here; (with_reducible show wpAny _ _ (call (Value.ref 280) [Value.str _ _]) _ _ _); k_dflt (refine' Pure.use (basename_c _ _ _ ?kx) ?k1 ?k2 ?k3 ?k4 ?k5 ?kK ?kd ?ku trivial ?_; (case kx => walk_at "my len"); (((case k1 => k_asm); (case k2 => k_asm); (case k3 => k_asm); (case k4 => k_asm); (case k5 => k_asm); (case kK => first | exact rfl | assumption); (case kd => ktr_room); (case ku => ktr_units)))); intro v99z h99z tk99z F99z N99z e99z; (obtain ⟨t99z, e99z⟩ := e99z); (cases e99z); (try dsimp only); (try k_fold)) | with_reducible (k_here; (with_reducible show wpAny _ _ (call (Value.ref 334) [Value.int _ _]) _ _ _); k_dflt (refine' Pure.use (filemode_c _ _ _) ?k1 ?k2 ?k3 ?k4 ?k5 ?kK ?kd ?ku trivial ?_; (((case k1 => k_asm); (case k2 => k_asm); (case k3 => k_asm); (case k4 => k_asm); (case k5 => k_asm); (case kK => first | exact rfl | assumption); (case kd => ktr_room); (case ku => ktr_units)))); intro v99z h99z tk99z F99z N99z e99z; (obtain ⟨t99z, e99z⟩ := e99z); (cases e99z); (try dsimp only); (try k_fold)) | with_reducible (k_here; (with_reducible show wpAny _ _ (call (Value.ref 287) [Value.str _ _]) _ _ _); k_dflt (refine' Pure.use (normpath_c _ _ _ ?kx) ?k1 ?k2 ?k3 ?k4 ?k5 ?kK ?kd ?ku trivial ?_; (case kx => walk_at "my len"); (((case k1 => k_asm); (case k2 => k_asm); (case k3 => k_asm); (case k4 => k_asm); (case k5 => k_asm); (case kK => first | exact rfl | assumption); (case kd => ktr_room); (case ku => ktr_units)))); intro v99z h99z tk99z F99z N99z e99z; (obtain ⟨t99z, e99z⟩ := e99z); (cases e99z); (try dsimp only); (try k_fold)) | with_reducible (k_here; (with_reducible show wpAny _ _ (call (Value.ref 182) [Value.ref _]) _ _ _); k_dflt (refine' call_cls ?k1 ?k2 ?k3 ?k4 ?k5 ?k6 ?_; (case k1 => k_asm); (case k2 => k_asm); (case k3 => k_asm); (case k4 => k_is); (case k5 => k_is); (case k6 => k_is); k_whole; intro x9z d9z h9z F9z N9z l19z l29z; (try k_lt l19z); (try k_lt2 l29z); (try k_sweep); ((refine' code_def ?k1 ?k2 ?k3 ?k4 ?k5 ?kA ?kF ?kK ?k6 ?k7 ?k8 ?k9 ?kB ?_ ?c2 ?c3 ?c4 ?c5; (((case kA => exact rfl); (case kF => exact rfl); (case kK => first | exact rfl | assumption); (case k1 => k_asm); (case k2 => k_asm); (case k3 => k_asm); (try (case k4 => k_asm)); (case k5 => k_asm); (case k6 => k_is); (case k7 => k_is); (case k8 => ktr_room); (try (case k9 => first | exact BindsTo.of_eq rfl | (refine' kp_binds ?kx ?ke; (case kx => k_in); (case ke => exact fun _ => rfl)))))); (((try (case c5 => decide)); (try (case kB => exact locs rfl)); (case c2 => exact rfl); (case c3 => exact rfl); (case c4 => exact rfl); k_whole)); intro g9z L9z h9z FG9z F9z N9z B9z X9z T9z; (try dsimp only); (try k_lift B9z); (try k_fold))))) | with_reducible (k_here; (with_reducible show wpAny _ _ (call (Value.builtin "dict.get") [Value.ref _, Value.str _ _]) _ _ _); k_dflt (refine site_get (by assumption) ?_ ?_); first | (intro m99z t99z hm99z hm09z hm19z) | (intro hm99z)) | with_reducible (k_here; (with_reducible show wpAny _ _ (getMethod (Value.ref _) (Str.ofString "get") _) _ _ _); k_dflt (refine getMethod_strTab_get (by assumption) ?_)) | with_reducible (k_here; (with_reducible show wpAny _ _ (call (Value.ref 341) _) _ _ _); k_dflt (refine' Pure.use (site_c _) ?k1 ?k2 ?k3 ?k4 ?k5 ?kK ?kd ?ku trivial ?_; (((case k1 => k_asm); (case k2 => k_asm); (case k3 => k_asm); (case k4 => k_asm); (case k5 => k_asm); (case kK => first | exact rfl | assumption); (case kd => ktr_room); (case ku => ktr_units)))); intro v99z h99z tk99z F99z N99z e99z; (obtain ⟨D99z, e99z, n99z, T99z⟩ := e99z); (cases e99z); (clear n99z); (try dsimp only); (try k_fold)) | walk1 | (dsimp only; walk1) | (leave1; walk_say "STEP leave1"; try dsimp only))
    rename ∀ (v : Value) (h' : Heap) (tk' : Nat), _ => hRet
    rename News _ _ _ _ => nN3
    refine hRet _ _ _ (by assumption) (stays_of GS9 (by assumption) F' fun p hp => ?_) (ans_out nN3 hI)
    rw [List.mem_singleton.mp hp]; exact (N' _ (by k_mem)).1
end

theorem at_P1 : True := by w_top off; trivial
theorem rows_get {tups : List (Addr × Obj)} {vs : List Value} {rows : List (Str × Str)} (h : RowsIn tups vs rows) : ∀ (i : Nat) v, vs[i]? = some v → ∃ T a b t u, v = Value.ref T ∧ (T, tupObj [.str a t, .str b u]) ∈ tups ∧ rows[i]? = some (a, b) := by
  induction h with
  | nil => intro i v h; simp at h
  | cons hm _ ih =>
    intro i v h
    cases i with
    | zero => exact ⟨_, _, _, _, _, by simpa using h.symm, hm, rfl⟩
    | succ i => simpa using ih i v (by simpa using h)
noncomputable def rowAt (rows : List (Str × Str)) (i : Nat) : Str × Str := (rows[i]?).getD (Str.ofString "", Str.ofString "")
theorem rowAt_of {rows : List (Str × Str)} {i : Nat} {p : Str × Str} (h : rows[i]? = some p) : rowAt rows i = p := by unfold rowAt; rw [h]; rfl
theorem rows_map (rows : List (Str × Str)) (f : Str × Str → Str) : (List.range rows.length).map (fun i => f (rowAt rows i)) = rows.map f := by
  refine List.ext_getElem (by simp) fun i h1 h2 => ?_
  have hi : i < rows.length := by simpa using h1
  simp [rowAt, hi]
theorem range_filterMap {α β : Type} (l : List α) (g : α → Option β) (d : α) : (List.range l.length).filterMap (fun i => g ((l[i]?).getD d)) = l.filterMap g := by
  have e : (List.range l.length).map (fun i => (l[i]?).getD d) = l := by
    refine List.ext_getElem (by simp) fun i h1 h2 => ?_
    have hi : i < l.length := by simpa using h1
    simp [hi]
  have e2 : (List.range l.length).filterMap (fun i => g ((l[i]?).getD d)) = ((List.range l.length).map (fun i => (l[i]?).getD d)).filterMap g := by rw [List.filterMap_map]; rfl
  rw [e2, e]
theorem rows_fm (rows : List (Str × Str)) (g : Str × Str → Option Str) : (List.range rows.length).filterMap (fun i => g (rowAt rows i)) = rows.filterMap g := range_filterMap rows g _
theorem news_cons {h₀ h : Heap} {L : Addr} {p : Addr × Obj} {news : List (Addr × Obj)} (N : News h₀ L h news) (hm : p ∈ news) : News h₀ L h (p :: news) := List.forall_mem_cons.mpr ⟨N _ hm, N⟩
section
variable {prog : Program} {w : World} {A : Around} {E : Value → Shared → Prop} {s : Shared} {h₀ : Heap} {L : Addr} {m : Str → Option Value} {env : Env}
noncomputable def EndPost (h₀ : Heap) (L : Addr) (m : Str → Option Value) (news : List (Addr × Obj)) (s s₂ : Shared) : Prop := ∃ h' tk', s₂ = { s with heap := h', toks := tk' } ∧ Fr h₀ L h' m ∧ News h₀ L h' news
theorem EndPost.mk {h' : Heap} {news news' : List (Addr × Obj)} {tk' : Nat} (F : Fr h₀ L h' m) (N : News h₀ L h' news') (hs : ∀ p ∈ news, p ∈ news') : EndPost h₀ L m news s { s with heap := h', toks := tk' } := ⟨h', tk', rfl, F, fun p hp => N p (hs p hp)⟩
noncomputable def FiltPost (h₀ : Heap) (L : Addr) (m : Str → Option Value) (news : List (Addr × Obj)) (r : Option Str) (s : Shared) (y : Value) (s₂ : Shared) : Prop := ∃ x, r = some x ∧ EltPost h₀ L m news x s y s₂
noncomputable def FiltEnd (h₀ : Heap) (L : Addr) (m : Str → Option Value) (news : List (Addr × Obj)) (r : Option Str) (s s₂ : Shared) : Prop := r = none ∧ EndPost h₀ L m news s s₂
/-- a comprehension with a test: the texts g allows, in order -/
theorem comp_filt {ct elt : Expr} {x : Str} {scope : Scope} {cl : List (Str × Addr)} {P : Nat → Value → Prop} {S : List (Addr × Obj) → Prop} {Fin : List Value → List (Addr × Obj) → Prop} {news : List (Addr × Obj)} (g : Nat → Option Str) (n : Nat) (hS : S news)
    (step : ∀ i v I oI C oC D m₂ h tk ys (E' : Value → Shared → Prop), i < n → P i v → LCg.NsObj oC m₂ → m₂ x = some v → Fr h₀ L h m → News h₀ L h ((I, oI) :: (C, oC) :: (D, LCg.lst ys) :: news) → LCg.Off3 I C D news → ((@Ne Nat I C) ∧ (@Ne Nat I D) ∧ (@Ne Nat C D)) →
      wpAny (model prog w) A (isTrue ct (compEnvC scope cl C env) (eval ct (compEnvC scope cl C env))) (fun ok s' => if ok = true then wpAny (model prog w) A (eval elt (compEnvC scope cl C env)) (FiltPost h₀ L m ((I, oI) :: (C, oC) :: (D, LCg.lst ys) :: news) (g i) { s with heap := h, toks := tk }) E' s'
        else FiltEnd h₀ L m ((I, oI) :: (C, oC) :: (D, LCg.lst ys) :: news) (g i) { s with heap := h, toks := tk } s') E' { s with heap := h, toks := tk })
    (fin : ∀ ys, StrsAre ys ((List.range n).filterMap g) → Fin ys news) : LCt.CompRestT prog w A h₀ L m env ct elt x scope cl s S P Fin n 0 [] news := by
  suffices H : ∀ k i ys, i + k = n → StrsAre ys ((List.range i).filterMap g) → LCt.CompRestT prog w A h₀ L m env ct elt x scope cl s S P Fin k i ys news from H n 0 [] (by omega) .nil
  intro k
  induction k with
  | zero => intro i ys hi hy; have : i = n := by omega
            subst this; exact fin ys hy
  | succ k ih =>
    intro i ys hi hy v I oI C oC D m₂ h tk E' hP hC hx F N off ne
    refine wpAny_mono (step i v I oI C oC D m₂ h tk ys E' (by omega) hP hC hx F N off ne) (fun ok s' hok => ?_) fun _ _ x => x
    cases ok with
    | true =>
      rw [if_pos rfl] at hok ⊢
      refine wpAny_mono hok (fun y s₂ hp => ?_) fun _ _ x => x
      obtain ⟨r, hr, h', tk', t, rfl, rfl, F', N'⟩ := hp
      refine ⟨h', tk', news, rfl, F', N', off, hS, ih (i + 1) _ (by omega) ?_⟩
      rw [List.range_succ, List.filterMap_append, List.filterMap_cons, hr]
      exact strs_snoc hy
    | false =>
      rw [if_neg Bool.false_ne_true] at hok ⊢
      obtain ⟨hr, h', tk', rfl, F', N'⟩ := hok
      refine ⟨h', tk', news, rfl, F', N', off, hS, ih (i + 1) _ (by omega) ?_⟩
      rw [List.range_succ, List.filterMap_append, List.filterMap_cons, hr, List.filterMap_nil, List.append_nil]
      exact hy
/-- a comprehension over pairs of texts -/
theorem comp_pairs {elt : Expr} {x x₂ : Str} {scope : Scope} {cl : List (Str × Addr)} {S : List (Addr × Obj) → Prop} {Fin : List Value → List (Addr × Obj) → Prop} {news tups : List (Addr × Obj)} {us : List Value} {rows : List (Str × Str)} (f : Str × Str → Str) (hI : RowsIn tups us rows) (hs : ∀ p ∈ tups, p ∈ news) (hS : S news)
    (step : ∀ a b t u I oI C oC D m₂ h tk ys (E' : Value → Shared → Prop), (a, b) ∈ rows → LCg.NsObj oC m₂ → m₂ x = some (.str a t) → m₂ x₂ = some (.str b u) → Fr h₀ L h m → News h₀ L h ((I, oI) :: (C, oC) :: (D, LCg.lst ys) :: news) → LCg.Off3 I C D news → ((@Ne Nat I C) ∧ (@Ne Nat I D) ∧ (@Ne Nat C D)) →
      wpAny (model prog w) A (eval elt (compEnvC scope cl C env)) (EltPost h₀ L m ((I, oI) :: (C, oC) :: (D, LCg.lst ys) :: news) (f (a, b)) { s with heap := h, toks := tk }) E' { s with heap := h, toks := tk })
    (fin : ∀ ys, StrsAre ys (rows.map f) → Fin ys news) : LCp.CompRestP prog w A h₀ L m env elt x x₂ scope cl s S (fun i v => us.toArray[i]? = some v) Fin us.toArray.size 0 [] news := by
  have hlen := hI.length
  suffices H : ∀ k i ys, i + k = rows.length → StrsAre ys ((List.range i).map fun i => f (rowAt rows i)) → LCp.CompRestP prog w A h₀ L m env elt x x₂ scope cl s S (fun i v => us.toArray[i]? = some v) Fin k i ys news by
    rw [List.size_toArray, hlen]; exact H rows.length 0 [] (by omega) .nil
  intro k
  induction k with
  | zero => intro i ys hi hy; have : i = rows.length := by omega
            subst this; rw [rows_map] at hy; exact fin ys hy
  | succ k ih =>
    intro i ys hi hy v hv
    rw [List.getElem?_toArray] at hv
    obtain ⟨T, a, b, t, u, rfl, hm, hr⟩ := rows_get hI i v hv
    refine ⟨T, _, .str a t, .str b u, 0, rfl, hs _ hm, rfl, rfl, fun I oI C oC D m₂ h tk E' hC hx hx2 F N off ne => ?_⟩
    refine wpAny_mono (step a b t u I oI C oC D m₂ h tk ys E' (List.mem_of_getElem? hr) hC hx hx2 F N off ne) (fun y s₂ hp => ?_) fun _ _ x => x
    obtain ⟨h', tk', t, rfl, rfl, F', N'⟩ := hp
    refine ⟨h', tk', news, rfl, F', N', off, hS, ih (i + 1) _ (by omega) ?_⟩
    rw [List.range_succ, List.map_append, List.map_cons, List.map_nil, rowAt_of hr]
    exact strs_snoc hy
end

theorem at_P2 : True := by w_top off; trivial
theorem len_any {prog : Program} {w : World} {A : Around} {E : Value → Shared → Prop} {s : Shared} {h₀ : Heap} {L l : Addr} {us : List Value} {n : Nat} {news : List (Addr × Obj)} {Q : Value → Shared → Prop} (N : News h₀ L s.heap news) (hm : (l, listOf us.toArray n) ∈ news) (hn : us.length ≤ 1000)
    (h : ∀ t tk, Q (.int us.length t) { s with toks := tk }) : wpAny (model prog w) A (call (.builtin "len") [.ref l]) Q E s :=
  PyProof.Rows.len_list ⟨_, (N _ hm).1, rfl, _, rfl⟩ (by rw [List.size_toArray]; omega) (by rw [List.size_toArray]; exact h _ _)
noncomputable def lineF (p : Str × Str) : Str := p.1 ++ Str.ofString ": " ++ p.2
noncomputable def strF (rows : List (Str × Str)) : Str := Txt.join (Str.ofString "\x0d\n") (rows.map lineF ++ [Str.ofString "", Str.ofString ""])
noncomputable def allF (rows : List (Str × Str)) (nm : Str) : List Str := rows.filterMap fun p => if Txt.lower p.1 = Txt.lower nm then some p.2 else none
theorem strs_append {vs ws : List Value} {xs ys : List Str} (h : StrsAre vs xs) (h' : StrsAre ws ys) : StrsAre (vs ++ ws) (xs ++ ys) := by
  induction h with
  | nil => exact h'
  | cons y t _ ih => exact .cons y t ih
theorem lines_sum : ∀ (rows : List (Str × Str)), (∀ p ∈ rows, p.1.length ≤ 100 ∧ p.2.length ≤ 10000) → ((rows.map lineF).map (·.length)).sum + (rows.map lineF).length ≤ 10200 * rows.length
  | [], _ => by simp
  | p :: r, h => by
    have ih := lines_sum r fun q hq => h q (.tail _ hq)
    have h1 := h p (.head _)
    have h2 : (lineF p).length = p.1.length + 2 + p.2.length := by unfold lineF; rw [Str.length_append, Str.length_append]; rfl
    simp only [List.map_cons, List.sum_cons, List.length_cons] at ih ⊢
    omega
theorem str_sum {rows : List (Str × Str)} (hr : ∀ p ∈ rows, p.1.length ≤ 100 ∧ p.2.length ≤ 10000) (hn : rows.length ≤ 100) : ((rows.map lineF ++ [Str.ofString "", Str.ofString ""]).map (·.length)).sum + (rows.map lineF ++ [Str.ofString "", Str.ofString ""]).length ≤ 1048576 := by
  have h1 := lines_sum rows hr
  have e : (Str.ofString "").length = 0 := rfl
  simp only [List.map_append, List.map_cons, List.map_nil, List.sum_append, List.sum_cons, List.sum_nil, List.length_append, List.length_cons, List.length_nil, e] at h1 ⊢
  omega
theorem low_ne {a b : Str} (h : (a == b) = false) : ¬ a = b := fun hq => by rw [hq] at h; simp at h
theorem cell_all {L' lst self dx : Addr} {rest : List (Addr × Obj)} {a b c : Obj} (h : @LT.lt Nat _ lst L' ∧ @LT.lt Nat _ self L' ∧ @LT.lt Nat _ dx L' ∧ AllLt L' rest) : ∀ p ∈ (lst, a) :: (self, b) :: (dx, c) :: rest, @Ne Nat p.1 (L' + 1) := by
  intro p hp
  have h4 := allLt_all h.2.2.2
  rcases List.mem_cons.mp hp with rfl | hp
  · have := h.1; show @Ne Nat lst _; omega
  · rcases List.mem_cons.mp hp with rfl | hp
    · have := h.2.1; show @Ne Nat self _; omega
    · rcases List.mem_cons.mp hp with rfl | hp
      · have := h.2.2.1; show @Ne Nat dx _; omega
      · have := h4 p hp; omega
section
local macro_rules | `(tactic| walk_at "eval ListComp") => `(tactic| (k_here; refine Hold.out ?_))
theorem len_c (w : World) (self dx lst : Addr) (us : List Value) (n : Nat) (rest : List (Addr × Obj)) (th : Tok) (hn : us.length ≤ 1000) : PureN 2 w 90 [.ref self] ((lst, listOf us.toArray n) :: (self, instObj 182 dx) :: (dx, hdDict w th lst) :: rest) (fun _ _ _ v => ∃ t, v = .int us.length t) := by
  ((intro mean9z mg9z mb9z dp9z un9z gd9z cn9z cs9z a9z ccd9z cl9z outer9z A₀9z base9z h₀9z L9z m9z s9z Q9z E9z B9z F9z X9z T9z hk9z hdp9z hun9z hN09z hret9z; have kM9z := kdMark; refine wpAny_call ?_; k_dflt (((refine' code_defG ?k1 ?k2 ?k3 ?k4 ?k5 ?kA ?kF ?kK ?k6 ?k7 ?k8 ?k9 ?kB ?_ ?c2 ?c3 ?c4 ?c5; (((case kA => exact rfl); (case kF => exact rfl); (case kK => first | exact rfl | assumption); (case k1 => k_asm); (case k2 => k_asm); (case k3 => k_asm); (try (case k4 => k_asm)); (case k5 => k_asm); (case k6 => k_is); (case k7 => k_is); (case k8 => ktr_room); (try (case k9 => first | exact BindsTo.of_eq rfl | (refine' kp_binds ?kx ?ke; (case kx => k_in); (case ke => exact fun _ => rfl)))))); (((try (case c5 => decide)); (try (case kB => exact locs rfl)); (case c2 => exact rfl); (case c3 => exact rfl); (case c4 => exact rfl); k_whole)); intro g9z L9z h9z FG9z F9z N9z B9z X9z T9z GS9z; (try dsimp only); (try k_lift B9z); (try k_fold))))))
  rename GSub _ _ _ => GS9
  repeat' (first | (k_unfold; (try dsimp only)) | (k_end; wrow_close) | ((fail_if_success (with_reducible show wpAny _ _ _ _ _ _)); dsimp only) | with_reducible (k_here; (with_reducible show wpAny _ _ (call (Value.ref 83) [Value.ref _, Value.str _ _] _) _ _ _); k_dflt (refine' PureK.use (conv_c _ _ _ _ _ ?kx ?kp) ?k1 ?k2 ?k3 ?k4 ?k5 ?kK ?kd ?ku trivial ?_; (case kx => walk_at "my len"); (case kp => walk_at "my print"); (((case k1 => k_asm); (case k2 => k_asm); (case k3 => k_asm); (case k4 => k_asm); (case k5 => k_asm); (case kK => first | exact rfl | assumption); (case kd => ktr_room); (case ku => ktr_units)))); intro v99z h99z tk99z F99z N99z e99z; (cases e99z); (try dsimp only); (try k_fold)) | with_reducible (k_here; (with_reducible show wpAny _ _ (call (Value.builtin "str.join") [Value.str _ _, Value.ref _]) _ _ _); (with_reducible rename StrsAre _ _ => hSt99z); k_dflt (refine' join_listW (ys := ?ys) ?k1 ?k2 ?k3 ?k4 ?_; (case k1 => exact News.isList (by k_asm) (by k_mem)); (case k2 => simpa using hSt99z); (case k3 => decide); (case k4 => first | omega | (simp only [] at *; omega))); intro t99z k99z) | walk1 | (dsimp only; walk1) | (leave1; walk_say "STEP leave1"; try dsimp only))
  refine len_any (by k_asm) (List.Mem.head _) hn fun t9 tk9 => ?_
  repeat' (first | (k_unfold; (try dsimp only)) | (k_end; wrow_close) | ((fail_if_success (with_reducible show wpAny _ _ _ _ _ _)); dsimp only) | with_reducible (k_here; (with_reducible show wpAny _ _ (call (Value.ref 83) [Value.ref _, Value.str _ _] _) _ _ _); k_dflt (refine' PureK.use (conv_c _ _ _ _ _ ?kx ?kp) ?k1 ?k2 ?k3 ?k4 ?k5 ?kK ?kd ?ku trivial ?_; (case kx => walk_at "my len"); (case kp => walk_at "my print"); (((case k1 => k_asm); (case k2 => k_asm); (case k3 => k_asm); (case k4 => k_asm); (case k5 => k_asm); (case kK => first | exact rfl | assumption); (case kd => ktr_room); (case ku => ktr_units)))); intro v99z h99z tk99z F99z N99z e99z; (cases e99z); (try dsimp only); (try k_fold)) | with_reducible (k_here; (with_reducible show wpAny _ _ (call (Value.builtin "str.join") [Value.str _ _, Value.ref _]) _ _ _); (with_reducible rename StrsAre _ _ => hSt99z); k_dflt (refine' join_listW (ys := ?ys) ?k1 ?k2 ?k3 ?k4 ?_; (case k1 => exact News.isList (by k_asm) (by k_mem)); (case k2 => simpa using hSt99z); (case k3 => decide); (case k4 => first | omega | (simp only [] at *; omega))); intro t99z k99z) | walk1 | (dsimp only; walk1) | (leave1; walk_say "STEP leave1"; try dsimp only))
  rename ∀ (v : Value) (h' : Heap) (tk' : Nat), _ => hRet
  rename News _ _ _ _ => nL9
  exact hRet _ _ _ (by assumption) (stays_of GS9 (by assumption) (by assumption) fun p hp => (nL9 p hp).1) ⟨_, rfl⟩
theorem str_c (w : World) (self dx lst : Addr) (us : List Value) (n : Nat) (rest : List (Addr × Obj)) (th : Tok) (rows : List (Str × Str)) (hI : RowsIn rest us rows) (hn : rows.length ≤ 100) (hr : ∀ p ∈ rows, p.1.length ≤ 100 ∧ p.2.length ≤ 10000) : PureN 2 w 158 [.ref self] ((lst, listOf us.toArray n) :: (self, instObj 182 dx) :: (dx, hdDict w th lst) :: rest) (fun _ _ _ v => ∃ t, v = .str (strF rows) t) := by
  ((intro mean9z mg9z mb9z dp9z un9z gd9z cn9z cs9z a9z ccd9z cl9z outer9z A₀9z base9z h₀9z L9z m9z s9z Q9z E9z B9z F9z X9z T9z hk9z hdp9z hun9z hN09z hret9z; have kM9z := kdMark; refine wpAny_call ?_; k_dflt (((refine' code_defG ?k1 ?k2 ?k3 ?k4 ?k5 ?kA ?kF ?kK ?k6 ?k7 ?k8 ?k9 ?kB ?_ ?c2 ?c3 ?c4 ?c5; (((case kA => exact rfl); (case kF => exact rfl); (case kK => first | exact rfl | assumption); (case k1 => k_asm); (case k2 => k_asm); (case k3 => k_asm); (try (case k4 => k_asm)); (case k5 => k_asm); (case k6 => k_is); (case k7 => k_is); (case k8 => ktr_room); (try (case k9 => first | exact BindsTo.of_eq rfl | (refine' kp_binds ?kx ?ke; (case kx => k_in); (case ke => exact fun _ => rfl)))))); (((try (case c5 => decide)); (try (case kB => exact locs rfl)); (case c2 => exact rfl); (case c3 => exact rfl); (case c4 => exact rfl); k_whole)); intro g9z L9z h9z FG9z F9z N9z B9z X9z T9z GS9z; (try dsimp only); (try k_lift B9z); (try k_fold))))))
  rename GSub _ _ _ => GS9
  repeat' (first | (k_unfold; (try dsimp only)) | (k_end; wrow_close) | ((fail_if_success (with_reducible show wpAny _ _ _ _ _ _)); dsimp only) | with_reducible (k_here; (with_reducible show wpAny _ _ (call (Value.ref 83) [Value.ref _, Value.str _ _] _) _ _ _); k_dflt (refine' PureK.use (conv_c _ _ _ _ _ ?kx ?kp) ?k1 ?k2 ?k3 ?k4 ?k5 ?kK ?kd ?ku trivial ?_; (case kx => walk_at "my len"); (case kp => walk_at "my print"); (((case k1 => k_asm); (case k2 => k_asm); (case k3 => k_asm); (case k4 => k_asm); (case k5 => k_asm); (case kK => first | exact rfl | assumption); (case kd => ktr_room); (case ku => ktr_units)))); intro v99z h99z tk99z F99z N99z e99z; (cases e99z); (try dsimp only); (try k_fold)) | with_reducible (k_here; (with_reducible show wpAny _ _ (call (Value.builtin "str.join") [Value.str _ _, Value.ref _]) _ _ _); (with_reducible rename StrsAre _ _ => hSt99z); k_dflt (refine' join_listW (ys := ?ys) ?k1 ?k2 ?k3 ?k4 ?_; (case k1 => exact News.isList (by k_asm) (by k_mem)); (case k2 => simpa using hSt99z); (case k3 => decide); (case k4 => first | omega | (simp only [] at *; omega))); intro t99z k99z) | walk1 | (dsimp only; walk1) | (leave1; walk_say "STEP leave1"; try dsimp only))
  unfold Hold
  refine' LCg.ListComp_U (F₀ := by k_asm) ?hc ?h1 ?h2 ?h3 ?h4 ?_ ?h5
  case hc => with_unfolding_all rfl
  case h1 => decide
  case h2 => rfl
  case h3 => decide
  case h4 => rfl
  case h5 => intro _; rfl
  repeat' (first | (k_unfold; (try dsimp only)) | (k_end; wrow_close) | ((fail_if_success (with_reducible show wpAny _ _ _ _ _ _)); dsimp only) | with_reducible (k_here; (with_reducible show wpAny _ _ (call (Value.ref 83) [Value.ref _, Value.str _ _] _) _ _ _); k_dflt (refine' PureK.use (conv_c _ _ _ _ _ ?kx ?kp) ?k1 ?k2 ?k3 ?k4 ?k5 ?kK ?kd ?ku trivial ?_; (case kx => walk_at "my len"); (case kp => walk_at "my print"); (((case k1 => k_asm); (case k2 => k_asm); (case k3 => k_asm); (case k4 => k_asm); (case k5 => k_asm); (case kK => first | exact rfl | assumption); (case kd => ktr_room); (case ku => ktr_units)))); intro v99z h99z tk99z F99z N99z e99z; (cases e99z); (try dsimp only); (try k_fold)) | with_reducible (k_here; (with_reducible show wpAny _ _ (call (Value.builtin "str.join") [Value.str _ _, Value.ref _]) _ _ _); (with_reducible rename StrsAre _ _ => hSt99z); k_dflt (refine' join_listW (ys := ?ys) ?k1 ?k2 ?k3 ?k4 ?_; (case k1 => exact News.isList (by k_asm) (by k_mem)); (case k2 => simpa using hSt99z); (case k3 => decide); (case k4 => first | omega | (simp only [] at *; omega))); intro t99z k99z) | walk1 | (dsimp only; walk1) | (leave1; walk_say "STEP leave1"; try dsimp only))
  refine LCg.CompSrc.ledger rfl (by k_asm) (by k_asm) (List.Mem.head _) (by rw [List.size_toArray, sizeLine_eq]; have := hI.length; omega) fun g => comp_map (fun i => lineF (rowAt rows i)) _ (.inr ⟨_, List.Mem.head _, rfl, _, rfl⟩) ?_ ?_
  · intro i v I oI C oC D m₂ h tk ys E' hi9 hP hC hx9 F' N' off ne
    obtain ⟨T, a, b, t, u, rfl, hm, hr9⟩ := rows_get hI i v (by simpa using hP)
    have N'' := news_cons N' (.tail _ (.tail _ (.tail _ (.tail _ (.tail _ (.tail _ hm))))))
    obtain ⟨hal, hbl⟩ := hr _ (List.mem_of_getElem? hr9)
    dsimp only at hal hbl
    rw [rowAt_of hr9]
    clear N'
    repeat' (first | (k_unfold; (try dsimp only)) | (k_end; wrow_close) | ((fail_if_success (with_reducible show wpAny _ _ _ _ _ _)); dsimp only) | with_reducible (k_here; (with_reducible show wpAny _ _ (call (Value.ref 83) [Value.ref _, Value.str _ _] _) _ _ _); k_dflt (refine' PureK.use (conv_c _ _ _ _ _ ?kx ?kp) ?k1 ?k2 ?k3 ?k4 ?k5 ?kK ?kd ?ku trivial ?_; (case kx => walk_at "my len"); (case kp => walk_at "my print"); (((case k1 => k_asm); (case k2 => k_asm); (case k3 => k_asm); (case k4 => k_asm); (case k5 => k_asm); (case kK => first | exact rfl | assumption); (case kd => ktr_room); (case ku => ktr_units)))); intro v99z h99z tk99z F99z N99z e99z; (cases e99z); (try dsimp only); (try k_fold)) | with_reducible (k_here; (with_reducible show wpAny _ _ (call (Value.builtin "str.join") [Value.str _ _, Value.ref _]) _ _ _); (with_reducible rename StrsAre _ _ => hSt99z); k_dflt (refine' join_listW (ys := ?ys) ?k1 ?k2 ?k3 ?k4 ?_; (case k1 => exact News.isList (by k_asm) (by k_mem)); (case k2 => simpa using hSt99z); (case k3 => decide); (case k4 => first | omega | (simp only [] at *; omega))); intro t99z k99z) | walk1 | (dsimp only; walk1) | (leave1; walk_say "STEP leave1"; try dsimp only))
    exact EltPost.mk (by with_reducible assumption) (by with_reducible assumption) (fun p hp => .tail _ hp) rfl
  · intro ys hys D9 h9 tk9 F9 N9 o9
    rw [List.size_toArray, hI.length, rows_map] at hys
    have hsum := str_sum hr hn
    have hyl := strsAre_length hys
    rw [List.length_map] at hyl
    repeat' (first | (k_unfold; (try dsimp only)) | (k_end; wrow_close) | ((fail_if_success (with_reducible show wpAny _ _ _ _ _ _)); dsimp only) | with_reducible (k_here; (with_reducible show wpAny _ _ (call (Value.ref 83) [Value.ref _, Value.str _ _] _) _ _ _); k_dflt (refine' PureK.use (conv_c _ _ _ _ _ ?kx ?kp) ?k1 ?k2 ?k3 ?k4 ?k5 ?kK ?kd ?ku trivial ?_; (case kx => walk_at "my len"); (case kp => walk_at "my print"); (((case k1 => k_asm); (case k2 => k_asm); (case k3 => k_asm); (case k4 => k_asm); (case k5 => k_asm); (case kK => first | exact rfl | assumption); (case kd => ktr_room); (case ku => ktr_units)))); intro v99z h99z tk99z F99z N99z e99z; (cases e99z); (try dsimp only); (try k_fold)) | with_reducible (k_here; (with_reducible show wpAny _ _ (call (Value.builtin "str.join") [Value.str _ _, Value.ref _]) _ _ _); (with_reducible rename StrsAre _ _ => hSt99z); k_dflt (refine' join_listW (ys := ?ys) ?k1 ?k2 ?k3 ?k4 ?_; (case k1 => exact News.isList (by k_asm) (by k_mem)); (case k2 => simpa using hSt99z); (case k3 => decide); (case k4 => first | omega | (simp only [] at *; omega))); intro t99z k99z) | walk1 | (dsimp only; walk1) | (leave1; walk_say "STEP leave1"; try dsimp only))
    rename News _ _ _ _ => nL9
    rename StrsAre _ _ => hys3
    refine join_listW (ys := rows.map lineF ++ [Str.ofString "", Str.ofString ""]) (News.isList nL9 (.head _)) (by simpa using strs_append hys3 (.cons _ _ (.cons _ _ .nil))) (by decide) hsum fun t8 k8 => ?_
    repeat' (first | (k_unfold; (try dsimp only)) | (k_end; wrow_close) | ((fail_if_success (with_reducible show wpAny _ _ _ _ _ _)); dsimp only) | with_reducible (k_here; (with_reducible show wpAny _ _ (call (Value.ref 83) [Value.ref _, Value.str _ _] _) _ _ _); k_dflt (refine' PureK.use (conv_c _ _ _ _ _ ?kx ?kp) ?k1 ?k2 ?k3 ?k4 ?k5 ?kK ?kd ?ku trivial ?_; (case kx => walk_at "my len"); (case kp => walk_at "my print"); (((case k1 => k_asm); (case k2 => k_asm); (case k3 => k_asm); (case k4 => k_asm); (case k5 => k_asm); (case kK => first | exact rfl | assumption); (case kd => ktr_room); (case ku => ktr_units)))); intro v99z h99z tk99z F99z N99z e99z; (cases e99z); (try dsimp only); (try k_fold)) | with_reducible (k_here; (with_reducible show wpAny _ _ (call (Value.builtin "str.join") [Value.str _ _, Value.ref _]) _ _ _); (with_reducible rename StrsAre _ _ => hSt99z); k_dflt (refine' join_listW (ys := ?ys) ?k1 ?k2 ?k3 ?k4 ?_; (case k1 => exact News.isList (by k_asm) (by k_mem)); (case k2 => simpa using hSt99z); (case k3 => decide); (case k4 => first | omega | (simp only [] at *; omega))); intro t99z k99z) | walk1 | (dsimp only; walk1) | (leave1; walk_say "STEP leave1"; try dsimp only))
    rename ∀ (v : Value) (h' : Heap) (tk' : Nat), _ => hRet
    rename Fr _ _ _ _ => fL8
    rename Fr _ _ _ _ => fL9
    exact hRet _ _ _ (by assumption) (stays_of GS9 (by assumption) (by assumption) fun p hp => (nL9 p (.tail _ (.tail _ (.tail _ hp)))).1) ⟨_, rfl⟩
/-- a call that reads the ledger and may tell what is new in the heap it leaves -/
noncomputable abbrev PureM (n : Nat) (w : World) (f : Addr) (vs : List Value) (news : List (Addr × Obj)) (R : Heap → Heap → Addr → Heap → Value → Prop) : Prop :=
  ∀ (mean : ExcName → Option Value) (mg mb : Str → Option Value) (dp un : Nat) (gd : Option (List Code)) (cn : Str) (cs : Scope) (a : Addr) (ccd : Value) (cl : List (Str × Addr)) (outer : List Env) (A₀ : Around) (base h₀ : Heap) (L : Addr) (m : Str → Option Value) (s : Shared) (Q E : Value → Shared → Prop),
    Below A₀ base outer h₀ → Fr h₀ L s.heap m → (Mine.hd.heap_39 w.params).In h₀ → Top Mine.view lse mean mg mb h₀ → cs.kind = .function →
    dp + n < recursionLimit → un + 8 * n < cLine → News h₀ L s.heap news → (∀ (v : Value) (h' : Heap) (tk' : Nat), Fr h₀ L h' m → s.heap.StaysIn h' → R s.heap h₀ L h' v → Q v { s with heap := h', toks := tk' }) →
      wpAny (model PySem.Challenge.rw_ny0294_01.row.prog w) (ktrTop dp un gd cn cs L a ccd cl outer) (call (.ref f) vs) Q E s
theorem PureM.use {n : Nat} {w : World} {f : Addr} {vs : List Value} {news : List (Addr × Obj)} {R : Heap → Heap → Addr → Heap → Value → Prop} (C : PureM n w f vs news R)
    {mean : ExcName → Option Value} {mg mb : Str → Option Value} {dp un : Nat} {gd : Option (List Code)} {cn : Str} {cs : Scope} {a : Addr} {ccd : Value} {cl : List (Str × Addr)} {outer : List Env} {A₀ : Around} {base h₀ : Heap} {L : Addr} {m : Str → Option Value} {s : Shared} {Q E : Value → Shared → Prop} {all : List (Addr × Obj)}
    (B : Below A₀ base outer h₀) (F : Fr h₀ L s.heap m) (X : (Mine.hd.heap_39 w.params).In h₀) (N : News h₀ L s.heap all) (T : Top Mine.view lse mean mg mb h₀) (hk : cs.kind = .function)
    (hd : dp + n < recursionLimit) (hu : un + 8 * n < cLine) (hsub : ∀ p ∈ news, p ∈ all) (ret : ∀ (v : Value) (h' : Heap) (tk' : Nat), Fr h₀ L h' m → News h₀ L h' all → R s.heap h₀ L h' v → News h₀ L s.heap all → Q v { s with heap := h', toks := tk' }) :
    wpAny (model PySem.Challenge.rw_ny0294_01.row.prog w) (ktrTop dp un gd cn cs L a ccd cl outer) (call (.ref f) vs) Q E s :=
  C mean mg mb dp un gd cn cs a ccd cl outer A₀ base h₀ L m s Q E B F X T hk hd hu (fun p hp => N p (hsub p hp)) fun v h' tk' F' st r => ret v h' tk' F' (fun p hp => ⟨st _ _ (N p hp).1, (N p hp).2⟩) r N
theorem fresh_ret {h g : Heap} {D : Addr} {news : List (Addr × Obj)} (G : GSub h g (news.map (·.1))) (hg : g.get? D = none) (hoff : ∀ p ∈ news, @Ne Nat p.1 D) : h.get? D = none := by
  cases e : h.get? D with
  | none => rfl
  | some o =>
    have hn : D ∉ news.map (·.1) := fun q => by
      obtain ⟨p, hp, e2⟩ := List.mem_map.mp q
      exact hoff p hp e2
    rw [G D o e hn] at hg; cases hg
theorem getall_c (w : World) (self dx lst : Addr) (us : List Value) (n : Nat) (rest : List (Addr × Obj)) (th : Tok) (rows : List (Str × Str)) (nm : Str) (tn : Tok) (hI : RowsIn rest us rows) (hn : rows.length ≤ 100) (hr : ∀ p ∈ rows, p.1.length ≤ 100 ∧ p.2.length ≤ 10000) (hn0 : nm.length ≤ 1000) (hnm : (Txt.lower nm).length ≤ 1000) (hnp : Printable (Txt.lower nm)) : PureM 2 w 121 [.ref self, .str nm tn] ((lst, listOf us.toArray n) :: (self, instObj 182 dx) :: (dx, hdDict w th lst) :: rest) (fun h h₀ L h' v => ∃ D ys, v = .ref D ∧ h.get? D = none ∧ News h₀ L h' [(D, LCg.lst ys)] ∧ StrsAre ys (allF rows nm)) := by
  ((intro mean9z mg9z mb9z dp9z un9z gd9z cn9z cs9z a9z ccd9z cl9z outer9z A₀9z base9z h₀9z L9z m9z s9z Q9z E9z B9z F9z X9z T9z hk9z hdp9z hun9z hN09z hret9z; have kM9z := kdMark; refine wpAny_call ?_; k_dflt (((refine' enterC ?k1 ?k2 ?k3 ?k4 ?k5 ?kA ?kF ?kK ?k6 ?k7 ?k8 ?k9 ?kB ?kD ?_ ?c2 ?c3 ?c4; (((case kA => exact rfl); (case kF => exact rfl); (case kK => first | exact rfl | assumption); (case k1 => k_asm); (case k2 => k_asm); (case k3 => k_asm); (try (case k4 => k_asm)); (case k5 => k_asm); (case k6 => k_is); (case k7 => k_is); (case k8 => ktr_room); (try (case k9 => first | exact BindsTo.of_eq rfl | (refine' kp_binds ?kx ?ke; (case kx => k_in); (case ke => exact fun _ => rfl)))))); (case kB => exact rfl); (case kD => decide +kernel); (((try (case c5 => decide)); (try (case kB => exact locs rfl)); (case c2 => exact rfl); (case c3 => exact rfl); (case c4 => exact rfl); k_whole)); intro g9z L9z h9z tk9z cells9z FG9z F9z N9z Y9z B9z X9z T9z GS9z l19z; (try k_lt l19z); k_cells Y9z; (try simp only [List.cons_append, List.nil_append] at N9z); (try dsimp only); (try k_lift B9z); (try k_fold))))))
  rename GSub _ _ _ => GS9
  repeat' (first | (k_unfold; (try dsimp only)) | (k_end; wrow_close) | ((fail_if_success (with_reducible show wpAny _ _ _ _ _ _)); dsimp only) | with_reducible (k_here; (with_reducible show wpAny _ _ (storeName _ _ _) _ _ _); (rename (_ < _ ∧ _ < _ ∧ _ < _ ∧ AllLt _ _) => hlt99z); k_dflt (refine' storeX_C ?F ?N ?c ?U ?d ?_ ?a ?b; (case a => rfl); (case b => rfl); (case F => k_asm); (case N => k_asm); (case c => rfl); (case U => exact UpdF.head (cell_all hlt99z)); (case d => k_asm); k_whole); intro h9z o9z F9z N9z d9z; (try dsimp only at N9z)) | with_reducible (k_here; (with_reducible show wpAny _ _ (call (Value.ref 83) [Value.ref _, Value.str _ _] _) _ _ _); k_dflt (refine' PureK.use (conv_c _ _ _ _ _ ?kx ?kp) ?k1 ?k2 ?k3 ?k4 ?k5 ?kK ?kd ?ku trivial ?_; (case kx => walk_at "my len"); (case kp => walk_at "my print"); (((case k1 => k_asm); (case k2 => k_asm); (case k3 => k_asm); (case k4 => k_asm); (case k5 => k_asm); (case kK => first | exact rfl | assumption); (case kd => ktr_room); (case ku => ktr_units)))); intro v99z h99z tk99z F99z N99z e99z; (cases e99z); (try dsimp only); (try k_fold)) | with_reducible (k_here; (with_reducible show wpAny _ _ (call (Value.builtin "str.join") [Value.str _ _, Value.ref _]) _ _ _); (with_reducible rename StrsAre _ _ => hSt99z); k_dflt (refine' join_listW (ys := ?ys) ?k1 ?k2 ?k3 ?k4 ?_; (case k1 => exact News.isList (by k_asm) (by k_mem)); (case k2 => simpa using hSt99z); (case k3 => decide); (case k4 => first | omega | (simp only [] at *; omega))); intro t99z k99z) | walk1 | (dsimp only; walk1) | (leave1; walk_say "STEP leave1"; try dsimp only))
  unfold Hold
  refine' LCt.ListComp_T (F₀ := by k_asm) ?hc ?h1 ?h2 ?h3 ?h4 ?_ ?h5
  case hc => with_unfolding_all rfl
  case h1 => decide
  case h2 => rfl
  case h3 => decide
  case h4 => rfl
  case h5 => intro _; rfl
  repeat' (first | (k_unfold; (try dsimp only)) | (k_end; wrow_close) | ((fail_if_success (with_reducible show wpAny _ _ _ _ _ _)); dsimp only) | with_reducible (k_here; (with_reducible show wpAny _ _ (storeName _ _ _) _ _ _); (rename (_ < _ ∧ _ < _ ∧ _ < _ ∧ AllLt _ _) => hlt99z); k_dflt (refine' storeX_C ?F ?N ?c ?U ?d ?_ ?a ?b; (case a => rfl); (case b => rfl); (case F => k_asm); (case N => k_asm); (case c => rfl); (case U => exact UpdF.head (cell_all hlt99z)); (case d => k_asm); k_whole); intro h9z o9z F9z N9z d9z; (try dsimp only at N9z)) | with_reducible (k_here; (with_reducible show wpAny _ _ (call (Value.ref 83) [Value.ref _, Value.str _ _] _) _ _ _); k_dflt (refine' PureK.use (conv_c _ _ _ _ _ ?kx ?kp) ?k1 ?k2 ?k3 ?k4 ?k5 ?kK ?kd ?ku trivial ?_; (case kx => walk_at "my len"); (case kp => walk_at "my print"); (((case k1 => k_asm); (case k2 => k_asm); (case k3 => k_asm); (case k4 => k_asm); (case k5 => k_asm); (case kK => first | exact rfl | assumption); (case kd => ktr_room); (case ku => ktr_units)))); intro v99z h99z tk99z F99z N99z e99z; (cases e99z); (try dsimp only); (try k_fold)) | with_reducible (k_here; (with_reducible show wpAny _ _ (call (Value.builtin "str.join") [Value.str _ _, Value.ref _]) _ _ _); (with_reducible rename StrsAre _ _ => hSt99z); k_dflt (refine' join_listW (ys := ?ys) ?k1 ?k2 ?k3 ?k4 ?_; (case k1 => exact News.isList (by k_asm) (by k_mem)); (case k2 => simpa using hSt99z); (case k3 => decide); (case k4 => first | omega | (simp only [] at *; omega))); intro t99z k99z) | walk1 | (dsimp only; walk1) | (leave1; walk_say "STEP leave1"; try dsimp only))
  rename News _ _ _ _ => nL9
  refine LCt.CompSrcT.ledger rfl (by k_asm) nL9 (by k_mem) (by rw [List.size_toArray, sizeLine_eq]; have := hI.length; omega) fun g => comp_filt (fun i => if Txt.lower (rowAt rows i).1 = Txt.lower nm then some (rowAt rows i).2 else none) _ (.inr ⟨_, by k_mem, rfl, _, rfl⟩) ?_ ?_
  · intro i v I oI C oC D m₂ h tk ys E' hi9 hP hC hx9 F' N' off ne
    obtain ⟨T, a, b, t, u, rfl, hm, hr9⟩ := rows_get hI i v (by simpa using hP)
    have N'' := news_cons N' (.tail _ (.tail _ (.tail _ (.tail _ (.tail _ (.tail _ (.tail _ hm)))))))
    obtain ⟨hal, hbl⟩ := hr _ (List.mem_of_getElem? hr9)
    dsimp only at hal hbl
    rw [rowAt_of hr9]
    clear N'
    repeat' (first | (k_unfold; (try dsimp only)) | (k_end; wrow_close) | ((fail_if_success (with_reducible show wpAny _ _ _ _ _ _)); dsimp only) | with_reducible (k_here; (with_reducible show wpAny _ _ (storeName _ _ _) _ _ _); (rename (_ < _ ∧ _ < _ ∧ _ < _ ∧ AllLt _ _) => hlt99z); k_dflt (refine' storeX_C ?F ?N ?c ?U ?d ?_ ?a ?b; (case a => rfl); (case b => rfl); (case F => k_asm); (case N => k_asm); (case c => rfl); (case U => exact UpdF.head (cell_all hlt99z)); (case d => k_asm); k_whole); intro h9z o9z F9z N9z d9z; (try dsimp only at N9z)) | with_reducible (k_here; (with_reducible show wpAny _ _ (call (Value.ref 83) [Value.ref _, Value.str _ _] _) _ _ _); k_dflt (refine' PureK.use (conv_c _ _ _ _ _ ?kx ?kp) ?k1 ?k2 ?k3 ?k4 ?k5 ?kK ?kd ?ku trivial ?_; (case kx => walk_at "my len"); (case kp => walk_at "my print"); (((case k1 => k_asm); (case k2 => k_asm); (case k3 => k_asm); (case k4 => k_asm); (case k5 => k_asm); (case kK => first | exact rfl | assumption); (case kd => ktr_room); (case ku => ktr_units)))); intro v99z h99z tk99z F99z N99z e99z; (cases e99z); (try dsimp only); (try k_fold)) | with_reducible (k_here; (with_reducible show wpAny _ _ (call (Value.builtin "str.join") [Value.str _ _, Value.ref _]) _ _ _); (with_reducible rename StrsAre _ _ => hSt99z); k_dflt (refine' join_listW (ys := ?ys) ?k1 ?k2 ?k3 ?k4 ?_; (case k1 => exact News.isList (by k_asm) (by k_mem)); (case k2 => simpa using hSt99z); (case k3 => decide); (case k4 => first | omega | (simp only [] at *; omega))); intro t99z k99z) | walk1 | (dsimp only; walk1) | (leave1; walk_say "STEP leave1"; try dsimp only))
    · exact ⟨_, if_pos (beq_iff_eq.mp (by with_reducible assumption)), EltPost.mk (by with_reducible assumption) (by with_reducible assumption) (fun p hp => .tail _ hp) rfl⟩
    · exact ⟨if_neg (low_ne (by with_reducible assumption)), EndPost.mk (by with_reducible assumption) (by with_reducible assumption) (fun p hp => .tail _ hp)⟩
  · intro ys hys D9 h9 tk9 F9 N9 o9
    rw [List.size_toArray, hI.length, rows_fm rows (fun p => if Txt.lower p.1 = Txt.lower nm then some p.2 else none)] at hys
    repeat' (first | (k_unfold; (try dsimp only)) | (k_end; wrow_close) | ((fail_if_success (with_reducible show wpAny _ _ _ _ _ _)); dsimp only) | with_reducible (k_here; (with_reducible show wpAny _ _ (storeName _ _ _) _ _ _); (rename (_ < _ ∧ _ < _ ∧ _ < _ ∧ AllLt _ _) => hlt99z); k_dflt (refine' storeX_C ?F ?N ?c ?U ?d ?_ ?a ?b; (case a => rfl); (case b => rfl); (case F => k_asm); (case N => k_asm); (case c => rfl); (case U => exact UpdF.head (cell_all hlt99z)); (case d => k_asm); k_whole); intro h9z o9z F9z N9z d9z; (try dsimp only at N9z)) | with_reducible (k_here; (with_reducible show wpAny _ _ (call (Value.ref 83) [Value.ref _, Value.str _ _] _) _ _ _); k_dflt (refine' PureK.use (conv_c _ _ _ _ _ ?kx ?kp) ?k1 ?k2 ?k3 ?k4 ?k5 ?kK ?kd ?ku trivial ?_; (case kx => walk_at "my len"); (case kp => walk_at "my print"); (((case k1 => k_asm); (case k2 => k_asm); (case k3 => k_asm); (case k4 => k_asm); (case k5 => k_asm); (case kK => first | exact rfl | assumption); (case kd => ktr_room); (case ku => ktr_units)))); intro v99z h99z tk99z F99z N99z e99z; (cases e99z); (try dsimp only); (try k_fold)) | with_reducible (k_here; (with_reducible show wpAny _ _ (call (Value.builtin "str.join") [Value.str _ _, Value.ref _]) _ _ _); (with_reducible rename StrsAre _ _ => hSt99z); k_dflt (refine' join_listW (ys := ?ys) ?k1 ?k2 ?k3 ?k4 ?_; (case k1 => exact News.isList (by k_asm) (by k_mem)); (case k2 => simpa using hSt99z); (case k3 => decide); (case k4 => first | omega | (simp only [] at *; omega))); intro t99z k99z) | walk1 | (dsimp only; walk1) | (leave1; walk_say "STEP leave1"; try dsimp only))
    rename ∀ (v : Value) (h' : Heap) (tk' : Nat), _ => hRet
    rename Fr _ _ _ _ => fL8
    rename Fr _ _ _ _ => fL9
    rename News _ _ _ _ => nL8
    rename News _ _ _ _ => nL7
    exact hRet _ _ _ (by assumption) (stays_of GS9 (by assumption) (by assumption) fun p hp => (N9 p (.tail _ (.tail _ hp))).1) ⟨_, _, rfl, fresh_ret GS9 (N9 _ (.head _)).2.2 (off1_all o9.2), fun p hp => by rw [List.mem_singleton.mp hp]; first | exact nL8 _ (.head _) | exact nL7 _ (.head _), hys⟩
end

theorem at_R1 : True := by w_top off; trivial
theorem noBool_match : typeLookup (.type "re.Match") "__bool__" = pure none := by rw [typeLookup_type, builtinLookup_eq_fast]; kernel_rfl
theorem noLen_match : typeLookup (.type "re.Match") "__len__" = pure none := by rw [typeLookup_type, builtinLookup_eq_fast]; kernel_rfl
section
variable {prog : Program} {w : World} {A : Around} {E : Value → Shared → Prop} {s : Shared}
theorem truthy_match {M : Addr} {Q : Bool → Shared → Prop} (hT : s.TypeIs (.ref M) "re.Match") (h : Q true s) : wpAny (model prog w) A (truthy (.ref M)) Q E s := by
  unfold truthy
  first
    | refine wpAny_bind (wpAny_callSpecial?_none (name := Str.ofString "__bool__") hT noBool_match ?_)
    | refine wpAny_bind (wpAny_pure (wpAny_bind (wpAny_callSpecial?_none (name := Str.ofString "__bool__") hT noBool_match ?_)))
  first
    | refine wpAny_bind (wpAny_specialOf (name := Str.ofString "__len__") hT noLen_match ?_)
    | refine wpAny_bind (wpAny_pure (wpAny_bind (wpAny_specialOf (name := Str.ofString "__len__") hT noLen_match ?_)))
  exact wpAny_pure h
theorem reAnswer_some {t : Builtin.Re.ReTarget} {m : Sre.M} {Q : Fin → Shared → Prop} (h : (m.runFor 4).outcome = some .matched) (hg : t.groups = 0)
    (hq : ∀ oT vs, Q (.done (.ret (.ref (s.heap.push oT).objs.size))) { s with heap := (s.heap.push oT).push { cls := .type "re.Match", data := .fields vs } }) : wpAny (model prog w) A (Builtin.Re.reAnswer t m) Q E s := by
  unfold Builtin.Re.reAnswer Builtin.Re.reRunToEnd
  refine wpAny_bind (wpAny_bind ?_)
  have e : Builtin.Re.reDrive (2 ^ 64) m = pure (m.runFor 4) := by
    show Builtin.Re.reDrive ((2 ^ 64 - 1) + 1) m = _
    unfold Builtin.Re.reDrive
    show (if (m.runFor 4).outcome.isSome = true then _ else _) = _
    rw [h]; rfl
  rw [e]
  refine wpAny_pure (wpAny_bind (rules_loop _ _ _ ?_))
  rw [h]
  refine wpAny_pure ?_
  dsimp only
  refine wpAny_bind ?_
  unfold Builtin.Re.reNewMatch
  rw [hg]
  refine wpAny_bind (wpAny_newObj_type (wpAny_newObj_type ?_) (hd := by show 2 ≤ sizeLine; decide))
  exact wpAny_pure (hq _ _)
theorem search_some {a c : Addr} {p fl : Value} {items : Array Value} {x : Str} {t : Tok} {Q : Fin → Shared → Prop}
    (h1 : s.heap.get? a = some ⟨.type "re.Pattern", none, .fields #[p, fl, .int 0 0, .none, .none, .ref c, .int 0 0], #[]⟩)
    (h2 : s.heap.get? c = some ⟨.type "tuple", none, .seq items 0, #[]⟩)
    (hx : x.length ≤ 100000)
    (hm : (Sre.M.runFor 4 (Sre.forSearch ((items.map Builtin.Re.reRawOf).map (·.toNat)) x.cps 0 0 x.cps.size false)).outcome = some .matched) (hq : ∀ oT vs, Q (.done (.ret (.ref (s.heap.push oT).objs.size))) { s with heap := (s.heap.push oT).push { cls := .type "re.Match", data := .fields vs } }) :
    wpAny (model prog w) A (Builtin.«re.Pattern.search» ⟨[.ref a, .str x t], []⟩) Q E s := by
  obtain ⟨h, g, d, tk, os⟩ := s
  have e : min ((2 : Int) ^ 63 - 1).toNat x.cps.size = x.cps.size := Nat.min_eq_right (by have : x.cps.size ≤ 100000 := hx; have h2 : ((2 : Int) ^ 63 - 1).toNat = 9223372036854775807 := by decide
                                                                                          omega)
  have e0 : min (0 : Int).toNat x.cps.size = 0 := Nat.zero_min _
  repeat (any_goals (first | assumption | ((with_reducible show wpAny _ _ (Builtin.Re.reAnswer _ _) _ _ _); refine reAnswer_some ?_ rfl ?_) | wp_step))
  dsimp only
  rw [e, e0]
  exact hm
theorem re_found {K : Frag} {h₀ : Heap} {L : Addr} {m : Str → Option Value} {a c : Addr} {p fl : Value} {items : Array Value} {x : Str} {t : Tok} {code : Array Nat} {news : List (Addr × Obj)} {Q : Value → Shared → Prop} (F : Fr h₀ L s.heap m) (X₀ : K.In h₀) (N : News h₀ L s.heap news)
    (hl : K.lookup a = some ⟨.type "re.Pattern", none, .fields #[p, fl, .int 0 0, .none, .none, .ref c, .int 0 0], #[]⟩) (hc : K.lookup c = some ⟨.type "tuple", none, .seq items 0, #[]⟩)
    (hcode : (items.map Builtin.Re.reRawOf).map (·.toNat) = code) (hx : x.length ≤ 100000) (hm : (Sre.M.runFor 4 (Sre.forSearch code x.cps 0 0 x.cps.size false)).outcome = some .matched)
    (h : ∀ h' M, Fr h₀ L h' m → News h₀ L h' news → h'.get? M ≠ none → ({ s with heap := h' } : Shared).TypeIs (.ref M) "re.Match" → Q (.ref M) { s with heap := h' }) : wpAny (model prog w) A (call (.builtin "re.Pattern.search") [.ref a, .str x t]) Q E s := by
  have X := X₀.keeps F.keep
  refine call_meets slot_re_search ⟨_, X _ _ hl, rfl⟩ entry_re_search (args_re_search _ _) (S := fun _ R s => s.heap.get? a = some ⟨.type "re.Pattern", none, .fields #[p, fl, .int 0 0, .none, .none, .ref c, .int 0 0], #[]⟩ ∧ s.heap.get? c = some ⟨.type "tuple", none, .seq items 0, #[]⟩ ∧ ∀ oT vs, R (.ok (.ret (.ref (s.heap.push oT).objs.size))) { s with heap := (s.heap.push oT).push { cls := .type "re.Match", data := .fields vs } })
    (fun _ _ _ _ _ hs => search_some hs.1 hs.2.1 hx (by rw [hcode]; exact hm) hs.2.2) ⟨X _ _ hl, X _ _ hc, fun oT vs => ?_⟩
  have up : ∀ b o, s.heap.get? b = some o → ((s.heap.push oT).push { cls := .type "re.Match", data := .fields vs }).get? b = some o := fun b o e => Heap.get?_push_of_some _ (Heap.get?_push_of_some _ e)
  refine h _ _ (F.push _ |>.push _) (fun p hp => ⟨up _ _ (N p hp).1, (N p hp).2⟩) (by rw [Heap.get?_push_size _ rfl]; exact fun h => nomatch h) ⟨_, Heap.get?_push_size _ rfl, rfl⟩
end
noncomputable def foundB (code : Array Nat) (x : Str) : Bool := match (Sre.M.runFor 4 (Sre.forSearch code x.cps 0 0 x.cps.size false)).outcome with | some .matched => true | _ => false
theorem found_of {code : Array Nat} {x : Str} (h : foundB code x = true) : (Sre.M.runFor 4 (Sre.forSearch code x.cps 0 0 x.cps.size false)).outcome = some .matched := by
  unfold foundB at h
  split at h
  · assumption
  · cases h
theorem found1 : foundB valueCode (Str.ofString "a\nb") = true := by decide +kernel
theorem found2 : foundB nameCode (Str.ofString "X\n") = true := by decide +kernel

theorem at_R2 : True := by w_top off; trivial
noncomputable def KeptN (h : Heap) (L : Addr) (R : Result → Shared → Prop) : Result → Shared → Prop := fun r s' => (∀ b o, b ≠ L → h.get? b = some o → s'.heap.get? b = some o) → R r s'
section
variable {prog : Program} {w : World} {A A₀ : Around} {E : Value → Shared → Prop} {s : Shared} {K : Frag} {C L : Addr} {h₀ base : Heap} {m mg mb : Str → Option Value} {p : Program} {loose : List Str} {mean : ExcName → Option Value}
/-- entry of a def that catches, from a frame with no frame below it -/
theorem enterS {env : Env} {R : Result → Shared → Prop} {name qual : Str} {params : Arguments} {body : List Stmt} {scope : Scope} {dV kV doc pm cdv ct oc : Value} {an od : Option Addr} {osl : Array (Option Value)} {f : Addr} {args : Args} {binds : List (Str × Value)}
    (B : Below A₀ base [] h₀) (F : Fr h₀ L s.heap m) (X₀ : K.In h₀) (T : Top p loose mean mg mb h₀) (hA : A.frames = some [env]) (hf : env.frame = some L) (hke : env.scope.kind = .function)
    (ho : K.lookup f = some ⟨oc, od, .func (fnOf name qual params body scope dV kV doc pm an cdv ct), osl⟩) (hcd : codeIn K cdv qual = true) (hroom : A.depth < recursionLimit)
    (hbind : BindsTo s (fnOf name qual params body scope dV kV doc pm an cdv ct) args binds) (hloc : ∀ y ∈ binds, scope.names.lookup y.1 = some .local)
    (h : ∀ g L' h₁, Fr h₀ L g m → Fr g L' h₁ (fun y => binds.reverse.lookup y) → News g L' h₁ [] → Below A base [env] g → K.In g → Top p loose mean mg mb g → KtsDicts ([env].filterMap (·.frame)) g →
      wpAny (model prog w) (A.deeper (envOf qual scope L' f cdv)) (execs body (envOf qual scope L' f cdv))
        (fun fl s' => LeaveS0 ([env].filterMap (·.frame)) h₀ L m g (KeptN s.heap L R) (match fl with | .ret v => v | _ => .none) s')
        (fun e s' => wpAny (model prog w) (A.deeper (envOf qual scope L' f cdv)) (leaving (envOf qual scope L' f cdv) e) (fun _ s'' => R (.error e) s'') (fun e' s'' => R (.error e') s'') s')
        { s with heap := h₁, toks := s.toks + binds.length })
    (hco : scope.isCoroutine = false) (hgen : scope.isGenerator = false) (hk : scope.kind = .function)
    (hcell : ∀ x ∈ scope.names, x.2 ≠ .cell) : codeAny (model prog w) A (.call (.ref f) args) R s := by
  have X := X₀.keeps F.keep
  obtain ⟨FG, BG, st, _⟩ := groundX (R := R) B F (News.nil : News h₀ L s.heap []) hA hf hke
  have hmem : ∀ b, b ∈ [env].filterMap (·.frame) → b = L := fun b hb => by
    obtain ⟨e, he, q⟩ := List.mem_filterMap.mp hb
    rw [List.mem_singleton.mp he, hf] at q
    exact (Option.some.inj q).symm
  have hL0 : h₀.get? L = none := kts_self F
  refine codeAny_call_def (fd := fnOf name qual params body scope dV kV doc pm an cdv ct) (body := body) (binds := binds) hroom (X _ _ ho) rfl (T.nolimit.keeps F.keep) (codeRec_of X hcd) rfl hbind hcell hloc (fun h₁ hns hk₁ => ?_) hco hgen hk
  refine wpAny_mono (h _ s.heap.objs.size h₁ FG ⟨hns, fun b o e => hk₁ b o (of_hideAll _ e), Nat.le_of_eq (hideAll_size _ _)⟩ News.nil BG (X₀.keeps st) (T.keeps st) (fun b hb => ?_)) (fun fl s' hl => ?_) fun _ _ y => y
  · obtain ⟨oL, es, ep, hL, hd, _⟩ := FG.ns
    rw [hmem b hb]; exact ⟨oL, es, ep, hL, hd⟩
  · obtain ⟨g', L', m', news', T', F', N', k⟩ := hl
    have low : ∀ b o, b ≠ L → s.heap.get? b = some o → s'.heap.get? b = some o := fun b o hb e => F'.keep b o (T'.other b o (hideAll_get _ e (fun q => nomatch q)) fun q => hb (hmem b q))
    obtain ⟨oL, es, ep, hL, hd, h3, h4⟩ := FG.ns
    obtain ⟨sl, hs⟩ := T'.up hL
    have F2 : Fr h₀ L s'.heap m := ⟨⟨_, es, ep, F'.keep _ _ hs, hd, h3, h4⟩, fun b o e => low b o (fun q => by rw [q, hL0] at e; cases e) (F.keep b o e), F.above⟩
    refine k F2 (fun p hp => ⟨(N' p hp).1, fun q => ?_, ?_⟩) low
    · have := (N' p hp).2.2; rw [q, hs] at this; cases this
    · cases e : h₀.get? p.1 with
      | none => rfl
      | some o =>
        obtain ⟨sl2, e2⟩ := T'.up (st _ _ e)
        have := (N' p hp).2.2; rw [e2] at this; cases this
end
theorem kept_news {h h' h₀ : Heap} {L : Addr} {news : List (Addr × Obj)} (low : ∀ b o, b ≠ L → h.get? b = some o → h'.get? b = some o) (N : News h₀ L h news) : News h₀ L h' news :=
  fun p hp => ⟨low _ _ (N p hp).2.1 (N p hp).1, (N p hp).2⟩
theorem add_plain {w : World} {mean : ExcName → Option Value} {mg mb : Str → Option Value} {dp un : Nat} {gd : Option (List Code)} {cn : Str} {cs : Scope} {a : Addr} {ccd : Value} {cl : List (Str × Addr)} {outer : List Env} {A₀ : Around} {base h₀ : Heap} {L : Addr} {m : Str → Option Value} {s : Shared} {Q E : Value → Shared → Prop}
    {self dx lst : Addr} {n : Nat} {th : Tok} {news : List (Addr × Obj)} {nm x : Str} {t1 t2 : Tok} (hnl : nm.length ≤ 1000) (hnp : Printable nm) (hxl : x.length ≤ 10000) (hxp : Printable x)
    (B : Below A₀ base outer h₀) (F : Fr h₀ L s.heap m) (X : (Mine.hd.heap_39 w.params).In h₀) (T : Top Mine.view lse mean mg mb h₀) (hk : cs.kind = .function) (hd : dp + 2 < recursionLimit) (hu : un + 16 < cLine)
    (N : News h₀ L s.heap news) (m1 : (lst, listOf ([] : List Value).toArray n) ∈ news) (m2 : (self, instObj 182 dx) ∈ news) (m3 : (dx, hdDict w th lst) ∈ news) (d1 : lst ≠ self) (d2 : lst ≠ dx) (d3 : dx ≠ self)
    (h : ∀ h' tk', Fr h₀ L h' m → News h₀ L h' [] → Q .none { s with heap := h', toks := tk' }) :
    wpAny (model PySem.Challenge.rw_ny0294_01.row.prog w) (ktrTop dp un gd cn cs L a ccd cl outer) (call (.ref 179) [.ref self, .str nm t1, .str x t2]) Q E s :=
  add0_c w self dx lst [] n th nm x t1 t2 [] hnl hnp hxl hxp (Nat.zero_le _) (fun _ hp => nomatch hp) d1 d2 d3 mean mg mb dp un gd cn cs a ccd cl outer A₀ base h₀ L m s Q E B F X T hk hd hu
    (List.forall_mem_cons.mpr ⟨N _ m1, List.forall_mem_cons.mpr ⟨N _ m2, List.forall_mem_cons.mpr ⟨N _ m3, fun _ hp => nomatch hp⟩⟩⟩) fun T t3 t4 h' tk' n' F' N' hne => h h' tk' F' News.nil
/-- a call from the law's own frame of a def that catches -/
noncomputable abbrev PureT (n : Nat) (w : World) (f : Addr) (vs : List Value) (R : Value → Prop) : Prop :=
  ∀ (mean : ExcName → Option Value) (mg mb : Str → Option Value) (dp un : Nat) (gd : Option (List Code)) (cn : Str) (cs : Scope) (a : Addr) (ccd : Value) (cl : List (Str × Addr)) (A₀ : Around) (h₀ : Heap) (L : Addr) (m : Str → Option Value) (s : Shared) (Q E : Value → Shared → Prop) (news : List (Addr × Obj)),
    Below A₀ h₀ [] h₀ → Fr h₀ L s.heap m → (Mine.hd.heap_39 w.params).In h₀ → Top Mine.view lse mean mg mb h₀ → cs.kind = .function →
    dp + n < recursionLimit → un + 8 * n < cLine → News h₀ L s.heap news → (∀ (v : Value) (h' : Heap) (tk' : Nat), Fr h₀ L h' m → News h₀ L h' news → R v → Q v { s with heap := h', toks := tk' }) →
      wpAny (model PySem.Challenge.rw_ny0294_01.row.prog w) (ktrTop dp un gd cn cs L a ccd cl []) (call (.ref f) vs) Q E s
section
theorem refused1 (w : World) (t1 t2 : Tok) : PureT 6 w 360 [.str (Str.ofString "X") t1, .str (Str.ofString "a\nb") t2] (fun v => v = .bool true) := by
  ((intro mean9z mg9z mb9z dp9z un9z gd9z cn9z cs9z a9z ccd9z cl9z A₀9z h₀9z L9z m9z s9z Q9z E9z news9z B9z F9z X9z T9z hk9z hdp9z hun9z hN09z hret9z; have kM9z := kdMark; refine wpAny_call ?_; k_dflt (refine' enterS ?k1 ?k2 ?k3 ?k5 ?kA ?kF ?kK ?k6 ?k7 ?k8 ?k9 ?kB ?_ ?c2 ?c3 ?c4 ?c5; (((case kA => exact rfl); (case kF => exact rfl); (case kK => first | exact rfl | assumption); (case k1 => k_asm); (case k2 => k_asm); (case k3 => k_asm); (try (case k4 => k_asm)); (case k5 => k_asm); (case k6 => k_is); (case k7 => k_is); (case k8 => ktr_room); (try (case k9 => first | exact BindsTo.of_eq rfl | (refine' kp_binds ?kx ?ke; (case kx => k_in); (case ke => exact fun _ => rfl)))))); (((try (case c5 => decide)); (try (case kB => exact locs rfl)); (case c2 => exact rfl); (case c3 => exact rfl); (case c4 => exact rfl); k_whole)); intro g9z L9z h9z FG9z F9z N9z B9z X9z T9z D9z; (try dsimp only); (try k_lift B9z); (try k_fold))))
  repeat' (first | (k_unfold; (try dsimp only)) | (k_end; wrow_close) | ((fail_if_success (with_reducible show wpAny _ _ _ _ _ _)); dsimp only) | with_reducible (k_here; (with_reducible show wpAny _ _ (call (Value.ref 179) [Value.ref _, Value.str _ _, Value.str _ _] _) _ _ _); k_dflt (refine wpAny_call ?_; refine' kp_more ?k1 ?k2 ?k3 ?k4 ?k5 ?kA ?kF ?kK ?k6 ?k7 ?k8 ?kX ?kM ?kN ?kD ?kR ?kP ?kT ?kB ?_ ?c2 ?c3 ?c4 ?c5; (((case kA => exact rfl); (case kF => exact rfl); (case kK => first | exact rfl | assumption); (case k1 => k_asm); (case k2 => k_asm); (case k3 => k_asm); (try (case k4 => k_asm)); (case k5 => k_asm); (case k6 => k_is); (case k7 => k_is); (case k8 => ktr_room); (try (case k9 => first | exact BindsTo.of_eq rfl | (refine' kp_binds ?kx ?ke; (case kx => k_in); (case ke => exact fun _ => rfl)))))); (case kX => kp_lit); (case kM => exact rfl); (case kN => exact rfl); (case kD => kp_flats); (case kR => exact rfl); (case kP => exact rfl); (case kT => exact fun _ => rfl); (case kB => exact fun _ => locs rfl); (((try (case c5 => decide)); (try (case kB => exact locs rfl)); (case c2 => exact rfl); (case c3 => exact rfl); (case c4 => exact rfl); k_whole)); intro D9z o9z g9z L9z h9z tk9z l19z lo9z hs9z fs9z FG9z F9z N9z B9z X9z T9z; (try k_lt l19z); (try dsimp only); (try k_lift B9z); (try k_fold))) | with_reducible (k_here; (with_reducible show wpAny _ _ (call (Value.ref 83) [Value.ref _, Value.str (Str.ofString "X\n") _] _) _ _ _); k_dflt (refine wpAny_call ?_; ((refine' code_def ?k1 ?k2 ?k3 ?k4 ?k5 ?kA ?kF ?kK ?k6 ?k7 ?k8 ?k9 ?kB ?_ ?c2 ?c3 ?c4 ?c5; (((case kA => exact rfl); (case kF => exact rfl); (case kK => first | exact rfl | assumption); (case k1 => k_asm); (case k2 => k_asm); (case k3 => k_asm); (try (case k4 => k_asm)); (case k5 => k_asm); (case k6 => k_is); (case k7 => k_is); (case k8 => ktr_room); (try (case k9 => first | exact BindsTo.of_eq rfl | (refine' kp_binds ?kx ?ke; (case kx => k_in); (case ke => exact fun _ => rfl)))))); (((try (case c5 => decide)); (try (case kB => exact locs rfl)); (case c2 => exact rfl); (case c3 => exact rfl); (case c4 => exact rfl); k_whole)); intro g9z L9z h9z FG9z F9z N9z B9z X9z T9z; (try dsimp only); (try k_lift B9z); (try k_fold))))) | with_reducible (k_here; (with_reducible show wpAny _ _ (call (Value.ref 83) [Value.ref _, Value.str (Str.ofString "a\nb") _] _) _ _ _); k_dflt (refine wpAny_call ?_; ((refine' code_def ?k1 ?k2 ?k3 ?k4 ?k5 ?kA ?kF ?kK ?k6 ?k7 ?k8 ?k9 ?kB ?_ ?c2 ?c3 ?c4 ?c5; (((case kA => exact rfl); (case kF => exact rfl); (case kK => first | exact rfl | assumption); (case k1 => k_asm); (case k2 => k_asm); (case k3 => k_asm); (try (case k4 => k_asm)); (case k5 => k_asm); (case k6 => k_is); (case k7 => k_is); (case k8 => ktr_room); (try (case k9 => first | exact BindsTo.of_eq rfl | (refine' kp_binds ?kx ?ke; (case kx => k_in); (case ke => exact fun _ => rfl)))))); (((try (case c5 => decide)); (try (case kB => exact locs rfl)); (case c2 => exact rfl); (case c3 => exact rfl); (case c4 => exact rfl); k_whole)); intro g9z L9z h9z FG9z F9z N9z B9z X9z T9z; (try dsimp only); (try k_lift B9z); (try k_fold))))) | with_reducible (k_here; (with_reducible show wpAny _ _ (call (Value.builtin "re.Pattern.search") [Value.ref 48, Value.str (Str.ofString "X\n") _]) _ _ _); ((k_dflt (refine' re_found (code := nameCode) ?k1 ?k2 ?kN ?k3 ?k4 ?k5 ?k6 ?k7 ?_; (case k1 => k_asm); (case k2 => k_asm); (case kN => k_asm); (case k3 => k_is); (case k4 => k_is); (case k5 => decide +kernel); (case k6 => exact Nat.le_of_ble_eq_true rfl); (case k7 => exact found_of found2)); intro h9z M99z F9z N9z hM99z hT99z))) | with_reducible (k_here; (with_reducible show wpAny _ _ (call (Value.builtin "re.Pattern.search") [Value.ref 53, Value.str (Str.ofString "a\nb") _]) _ _ _); ((k_dflt (refine' re_found (code := valueCode) ?k1 ?k2 ?kN ?k3 ?k4 ?k5 ?k6 ?k7 ?_; (case k1 => k_asm); (case k2 => k_asm); (case kN => k_asm); (case k3 => k_is); (case k4 => k_is); (case k5 => decide +kernel); (case k6 => exact Nat.le_of_ble_eq_true rfl); (case k7 => exact found_of found1)); intro h9z M99z F9z N9z hM99z hT99z))) | with_reducible (k_here; (with_reducible show wpAny _ _ (truthy (Value.ref _)) _ _ _); (rename Shared.TypeIs _ _ _ => hTm9z); refine truthy_match hTm9z ?_; clear hTm9z) | with_reducible (k_here; (with_reducible show wpAny _ _ (call (Value.ref 182) [Value.ref _]) _ _ _); k_dflt (refine' call_cls ?k1 ?k2 ?k3 ?k4 ?k5 ?k6 ?_; (case k1 => k_asm); (case k2 => k_asm); (case k3 => k_asm); (case k4 => k_is); (case k5 => k_is); (case k6 => k_is); k_whole; intro x9z d9z h9z F9z N9z l19z l29z; (try k_lt l19z); (try k_lt2 l29z); (try k_sweep); ((refine' code_def ?k1 ?k2 ?k3 ?k4 ?k5 ?kA ?kF ?kK ?k6 ?k7 ?k8 ?k9 ?kB ?_ ?c2 ?c3 ?c4 ?c5; (((case kA => exact rfl); (case kF => exact rfl); (case kK => first | exact rfl | assumption); (case k1 => k_asm); (case k2 => k_asm); (case k3 => k_asm); (try (case k4 => k_asm)); (case k5 => k_asm); (case k6 => k_is); (case k7 => k_is); (case k8 => ktr_room); (try (case k9 => first | exact BindsTo.of_eq rfl | (refine' kp_binds ?kx ?ke; (case kx => k_in); (case ke => exact fun _ => rfl)))))); (((try (case c5 => decide)); (try (case kB => exact locs rfl)); (case c2 => exact rfl); (case c3 => exact rfl); (case c4 => exact rfl); k_whole)); intro g9z L9z h9z FG9z F9z N9z B9z X9z T9z; (try dsimp only); (try k_lift B9z); (try k_fold))))) | with_reducible (k_here; (with_reducible show wpAny _ _ (call (Value.ref 83) [Value.ref _, Value.str _ _] _) _ _ _); k_dflt (refine' PureK.use (conv_c _ _ _ _ _ ?kx ?kp) ?k1 ?k2 ?k3 ?k4 ?k5 ?kK ?kd ?ku trivial ?_; (case kx => walk_at "my len"); (case kp => walk_at "my print"); (((case k1 => k_asm); (case k2 => k_asm); (case k3 => k_asm); (case k4 => k_asm); (case k5 => k_asm); (case kK => first | exact rfl | assumption); (case kd => ktr_room); (case ku => ktr_units)))); intro v99z h99z tk99z F99z N99z e99z; (cases e99z); (try dsimp only); (try k_fold)) | with_reducible (k_here; (with_reducible show wpAny _ _ (call (Value.builtin "re.Pattern.search") [Value.ref 53, Value.str _ _]) _ _ _); k_dflt (refine' re_search (code := valueCode) ?k1 ?k2 ?k3 ?k4 ?k5 ?k6 ?k7 ?_; (case k1 => k_asm); (case k2 => k_asm); (case k3 => k_is); (case k4 => k_is); (case k5 => decide +kernel); (case k6 => assumption); (case k7 => exact value_fails (by assumption)))) | with_reducible (k_here; (with_reducible show wpAny _ _ (call (Value.builtin "re.Pattern.search") [Value.ref 48, Value.str _ _]) _ _ _); k_dflt (refine' re_search (code := nameCode) ?k1 ?k2 ?k3 ?k4 ?k5 ?k6 ?k7 ?_; (case k1 => k_asm); (case k2 => k_asm); (case k3 => k_is); (case k4 => k_is); (case k5 => decide +kernel); (case k6 => assumption); (case k7 => exact name_fails (by assumption)))) | with_reducible (k_here; (with_reducible show wpAny _ _ (getMethod (Value.ref _) (Str.ofString "search") _) _ _ _); k_dflt (refine' re_method ?k1 ?k2 ?k3 ?_; (case k1 => k_asm); (case k2 => k_asm); (case k3 => k_is))) | walk1 | (dsimp only; walk1) | (leave1; walk_say "STEP leave1"; try dsimp only))
  (((with_reducible show KeptN _ _ _ _ _); intro low99z; (rename ∀ (v : Value) (h' : Heap) (tk' : Nat), _ => hRet9z); exact hRet9z _ _ _ (by assumption) (kept_news low99z (by assumption)) rfl))
theorem refused2 (w : World) (t1 t2 : Tok) : PureT 6 w 360 [.str (Str.ofString "X\n") t1, .str (Str.ofString "a") t2] (fun v => v = .bool true) := by
  ((intro mean9z mg9z mb9z dp9z un9z gd9z cn9z cs9z a9z ccd9z cl9z A₀9z h₀9z L9z m9z s9z Q9z E9z news9z B9z F9z X9z T9z hk9z hdp9z hun9z hN09z hret9z; have kM9z := kdMark; refine wpAny_call ?_; k_dflt (refine' enterS ?k1 ?k2 ?k3 ?k5 ?kA ?kF ?kK ?k6 ?k7 ?k8 ?k9 ?kB ?_ ?c2 ?c3 ?c4 ?c5; (((case kA => exact rfl); (case kF => exact rfl); (case kK => first | exact rfl | assumption); (case k1 => k_asm); (case k2 => k_asm); (case k3 => k_asm); (try (case k4 => k_asm)); (case k5 => k_asm); (case k6 => k_is); (case k7 => k_is); (case k8 => ktr_room); (try (case k9 => first | exact BindsTo.of_eq rfl | (refine' kp_binds ?kx ?ke; (case kx => k_in); (case ke => exact fun _ => rfl)))))); (((try (case c5 => decide)); (try (case kB => exact locs rfl)); (case c2 => exact rfl); (case c3 => exact rfl); (case c4 => exact rfl); k_whole)); intro g9z L9z h9z FG9z F9z N9z B9z X9z T9z D9z; (try dsimp only); (try k_lift B9z); (try k_fold))))
  repeat' (first | (k_unfold; (try dsimp only)) | (k_end; wrow_close) | ((fail_if_success (with_reducible show wpAny _ _ _ _ _ _)); dsimp only) | with_reducible (k_here; (with_reducible show wpAny _ _ (call (Value.ref 179) [Value.ref _, Value.str _ _, Value.str _ _] _) _ _ _); k_dflt (refine wpAny_call ?_; refine' kp_more ?k1 ?k2 ?k3 ?k4 ?k5 ?kA ?kF ?kK ?k6 ?k7 ?k8 ?kX ?kM ?kN ?kD ?kR ?kP ?kT ?kB ?_ ?c2 ?c3 ?c4 ?c5; (((case kA => exact rfl); (case kF => exact rfl); (case kK => first | exact rfl | assumption); (case k1 => k_asm); (case k2 => k_asm); (case k3 => k_asm); (try (case k4 => k_asm)); (case k5 => k_asm); (case k6 => k_is); (case k7 => k_is); (case k8 => ktr_room); (try (case k9 => first | exact BindsTo.of_eq rfl | (refine' kp_binds ?kx ?ke; (case kx => k_in); (case ke => exact fun _ => rfl)))))); (case kX => kp_lit); (case kM => exact rfl); (case kN => exact rfl); (case kD => kp_flats); (case kR => exact rfl); (case kP => exact rfl); (case kT => exact fun _ => rfl); (case kB => exact fun _ => locs rfl); (((try (case c5 => decide)); (try (case kB => exact locs rfl)); (case c2 => exact rfl); (case c3 => exact rfl); (case c4 => exact rfl); k_whole)); intro D9z o9z g9z L9z h9z tk9z l19z lo9z hs9z fs9z FG9z F9z N9z B9z X9z T9z; (try k_lt l19z); (try dsimp only); (try k_lift B9z); (try k_fold))) | with_reducible (k_here; (with_reducible show wpAny _ _ (call (Value.ref 83) [Value.ref _, Value.str (Str.ofString "X\n") _] _) _ _ _); k_dflt (refine wpAny_call ?_; ((refine' code_def ?k1 ?k2 ?k3 ?k4 ?k5 ?kA ?kF ?kK ?k6 ?k7 ?k8 ?k9 ?kB ?_ ?c2 ?c3 ?c4 ?c5; (((case kA => exact rfl); (case kF => exact rfl); (case kK => first | exact rfl | assumption); (case k1 => k_asm); (case k2 => k_asm); (case k3 => k_asm); (try (case k4 => k_asm)); (case k5 => k_asm); (case k6 => k_is); (case k7 => k_is); (case k8 => ktr_room); (try (case k9 => first | exact BindsTo.of_eq rfl | (refine' kp_binds ?kx ?ke; (case kx => k_in); (case ke => exact fun _ => rfl)))))); (((try (case c5 => decide)); (try (case kB => exact locs rfl)); (case c2 => exact rfl); (case c3 => exact rfl); (case c4 => exact rfl); k_whole)); intro g9z L9z h9z FG9z F9z N9z B9z X9z T9z; (try dsimp only); (try k_lift B9z); (try k_fold))))) | with_reducible (k_here; (with_reducible show wpAny _ _ (call (Value.ref 83) [Value.ref _, Value.str (Str.ofString "a\nb") _] _) _ _ _); k_dflt (refine wpAny_call ?_; ((refine' code_def ?k1 ?k2 ?k3 ?k4 ?k5 ?kA ?kF ?kK ?k6 ?k7 ?k8 ?k9 ?kB ?_ ?c2 ?c3 ?c4 ?c5; (((case kA => exact rfl); (case kF => exact rfl); (case kK => first | exact rfl | assumption); (case k1 => k_asm); (case k2 => k_asm); (case k3 => k_asm); (try (case k4 => k_asm)); (case k5 => k_asm); (case k6 => k_is); (case k7 => k_is); (case k8 => ktr_room); (try (case k9 => first | exact BindsTo.of_eq rfl | (refine' kp_binds ?kx ?ke; (case kx => k_in); (case ke => exact fun _ => rfl)))))); (((try (case c5 => decide)); (try (case kB => exact locs rfl)); (case c2 => exact rfl); (case c3 => exact rfl); (case c4 => exact rfl); k_whole)); intro g9z L9z h9z FG9z F9z N9z B9z X9z T9z; (try dsimp only); (try k_lift B9z); (try k_fold))))) | with_reducible (k_here; (with_reducible show wpAny _ _ (call (Value.builtin "re.Pattern.search") [Value.ref 48, Value.str (Str.ofString "X\n") _]) _ _ _); ((k_dflt (refine' re_found (code := nameCode) ?k1 ?k2 ?kN ?k3 ?k4 ?k5 ?k6 ?k7 ?_; (case k1 => k_asm); (case k2 => k_asm); (case kN => k_asm); (case k3 => k_is); (case k4 => k_is); (case k5 => decide +kernel); (case k6 => exact Nat.le_of_ble_eq_true rfl); (case k7 => exact found_of found2)); intro h9z M99z F9z N9z hM99z hT99z))) | with_reducible (k_here; (with_reducible show wpAny _ _ (call (Value.builtin "re.Pattern.search") [Value.ref 53, Value.str (Str.ofString "a\nb") _]) _ _ _); ((k_dflt (refine' re_found (code := valueCode) ?k1 ?k2 ?kN ?k3 ?k4 ?k5 ?k6 ?k7 ?_; (case k1 => k_asm); (case k2 => k_asm); (case kN => k_asm); (case k3 => k_is); (case k4 => k_is); (case k5 => decide +kernel); (case k6 => exact Nat.le_of_ble_eq_true rfl); (case k7 => exact found_of found1)); intro h9z M99z F9z N9z hM99z hT99z))) | with_reducible (k_here; (with_reducible show wpAny _ _ (truthy (Value.ref _)) _ _ _); (rename Shared.TypeIs _ _ _ => hTm9z); refine truthy_match hTm9z ?_; clear hTm9z) | with_reducible (k_here; (with_reducible show wpAny _ _ (call (Value.ref 182) [Value.ref _]) _ _ _); k_dflt (refine' call_cls ?k1 ?k2 ?k3 ?k4 ?k5 ?k6 ?_; (case k1 => k_asm); (case k2 => k_asm); (case k3 => k_asm); (case k4 => k_is); (case k5 => k_is); (case k6 => k_is); k_whole; intro x9z d9z h9z F9z N9z l19z l29z; (try k_lt l19z); (try k_lt2 l29z); (try k_sweep); ((refine' code_def ?k1 ?k2 ?k3 ?k4 ?k5 ?kA ?kF ?kK ?k6 ?k7 ?k8 ?k9 ?kB ?_ ?c2 ?c3 ?c4 ?c5; (((case kA => exact rfl); (case kF => exact rfl); (case kK => first | exact rfl | assumption); (case k1 => k_asm); (case k2 => k_asm); (case k3 => k_asm); (try (case k4 => k_asm)); (case k5 => k_asm); (case k6 => k_is); (case k7 => k_is); (case k8 => ktr_room); (try (case k9 => first | exact BindsTo.of_eq rfl | (refine' kp_binds ?kx ?ke; (case kx => k_in); (case ke => exact fun _ => rfl)))))); (((try (case c5 => decide)); (try (case kB => exact locs rfl)); (case c2 => exact rfl); (case c3 => exact rfl); (case c4 => exact rfl); k_whole)); intro g9z L9z h9z FG9z F9z N9z B9z X9z T9z; (try dsimp only); (try k_lift B9z); (try k_fold))))) | with_reducible (k_here; (with_reducible show wpAny _ _ (call (Value.ref 83) [Value.ref _, Value.str _ _] _) _ _ _); k_dflt (refine' PureK.use (conv_c _ _ _ _ _ ?kx ?kp) ?k1 ?k2 ?k3 ?k4 ?k5 ?kK ?kd ?ku trivial ?_; (case kx => walk_at "my len"); (case kp => walk_at "my print"); (((case k1 => k_asm); (case k2 => k_asm); (case k3 => k_asm); (case k4 => k_asm); (case k5 => k_asm); (case kK => first | exact rfl | assumption); (case kd => ktr_room); (case ku => ktr_units)))); intro v99z h99z tk99z F99z N99z e99z; (cases e99z); (try dsimp only); (try k_fold)) | with_reducible (k_here; (with_reducible show wpAny _ _ (call (Value.builtin "re.Pattern.search") [Value.ref 53, Value.str _ _]) _ _ _); k_dflt (refine' re_search (code := valueCode) ?k1 ?k2 ?k3 ?k4 ?k5 ?k6 ?k7 ?_; (case k1 => k_asm); (case k2 => k_asm); (case k3 => k_is); (case k4 => k_is); (case k5 => decide +kernel); (case k6 => assumption); (case k7 => exact value_fails (by assumption)))) | with_reducible (k_here; (with_reducible show wpAny _ _ (call (Value.builtin "re.Pattern.search") [Value.ref 48, Value.str _ _]) _ _ _); k_dflt (refine' re_search (code := nameCode) ?k1 ?k2 ?k3 ?k4 ?k5 ?k6 ?k7 ?_; (case k1 => k_asm); (case k2 => k_asm); (case k3 => k_is); (case k4 => k_is); (case k5 => decide +kernel); (case k6 => assumption); (case k7 => exact name_fails (by assumption)))) | with_reducible (k_here; (with_reducible show wpAny _ _ (getMethod (Value.ref _) (Str.ofString "search") _) _ _ _); k_dflt (refine' re_method ?k1 ?k2 ?k3 ?_; (case k1 => k_asm); (case k2 => k_asm); (case k3 => k_is))) | walk1 | (dsimp only; walk1) | (leave1; walk_say "STEP leave1"; try dsimp only))
  (((with_reducible show KeptN _ _ _ _ _); intro low99z; (rename ∀ (v : Value) (h' : Heap) (tk' : Nat), _ => hRet9z); exact hRet9z _ _ _ (by assumption) (kept_news low99z (by assumption)) rfl))
theorem refused3 (w : World) (t1 t2 : Tok) : PureT 6 w 360 [.str (Str.ofString "X") t1, .str (Str.ofString "a b") t2] (fun v => v = .bool false) := by
  ((intro mean9z mg9z mb9z dp9z un9z gd9z cn9z cs9z a9z ccd9z cl9z A₀9z h₀9z L9z m9z s9z Q9z E9z news9z B9z F9z X9z T9z hk9z hdp9z hun9z hN09z hret9z; have kM9z := kdMark; refine wpAny_call ?_; k_dflt (refine' enterS ?k1 ?k2 ?k3 ?k5 ?kA ?kF ?kK ?k6 ?k7 ?k8 ?k9 ?kB ?_ ?c2 ?c3 ?c4 ?c5; (((case kA => exact rfl); (case kF => exact rfl); (case kK => first | exact rfl | assumption); (case k1 => k_asm); (case k2 => k_asm); (case k3 => k_asm); (try (case k4 => k_asm)); (case k5 => k_asm); (case k6 => k_is); (case k7 => k_is); (case k8 => ktr_room); (try (case k9 => first | exact BindsTo.of_eq rfl | (refine' kp_binds ?kx ?ke; (case kx => k_in); (case ke => exact fun _ => rfl)))))); (((try (case c5 => decide)); (try (case kB => exact locs rfl)); (case c2 => exact rfl); (case c3 => exact rfl); (case c4 => exact rfl); k_whole)); intro g9z L9z h9z FG9z F9z N9z B9z X9z T9z D9z; (try dsimp only); (try k_lift B9z); (try k_fold))))
  repeat' (first | (k_unfold; (try dsimp only)) | (k_end; wrow_close) | ((fail_if_success (with_reducible show wpAny _ _ _ _ _ _)); dsimp only) | with_reducible (k_here; (with_reducible show wpAny _ _ (call (Value.ref 179) [Value.ref _, Value.str _ _, Value.str _ _] _) _ _ _); k_dflt (refine' add_plain ?nl ?np ?xl ?xp ?k1 ?k2 ?k3 ?k5 ?kK ?kd ?ku ?kN ?m1 ?m2 ?m3 ?d1 ?d2 ?d3 ?_; (case nl => exact Nat.le_of_ble_eq_true rfl); (case xl => exact Nat.le_of_ble_eq_true rfl); (case np => (unfold Printable; decide +kernel)); (case xp => (unfold Printable; decide +kernel)); (case k1 => k_asm); (case k2 => k_asm); (case k3 => k_asm); (case k5 => k_asm); (case kK => first | exact rfl | assumption); (case kd => ktr_room); (case ku => ktr_units); (case kN => k_asm); (case m1 => k_mem); (case m2 => k_mem); (case m3 => k_mem); (case d1 => (show @Ne Nat _ _; omega)); (case d2 => (show @Ne Nat _ _; omega)); (case d3 => (show @Ne Nat _ _; omega))); intro h9z tk9z F9z N9z; (try dsimp only); (try k_fold)) | with_reducible (k_here; (with_reducible show wpAny _ _ (call (Value.ref 179) [Value.ref _, Value.str _ _, Value.str _ _] _) _ _ _); k_dflt (refine wpAny_call ?_; refine' kp_more ?k1 ?k2 ?k3 ?k4 ?k5 ?kA ?kF ?kK ?k6 ?k7 ?k8 ?kX ?kM ?kN ?kD ?kR ?kP ?kT ?kB ?_ ?c2 ?c3 ?c4 ?c5; (((case kA => exact rfl); (case kF => exact rfl); (case kK => first | exact rfl | assumption); (case k1 => k_asm); (case k2 => k_asm); (case k3 => k_asm); (try (case k4 => k_asm)); (case k5 => k_asm); (case k6 => k_is); (case k7 => k_is); (case k8 => ktr_room); (try (case k9 => first | exact BindsTo.of_eq rfl | (refine' kp_binds ?kx ?ke; (case kx => k_in); (case ke => exact fun _ => rfl)))))); (case kX => kp_lit); (case kM => exact rfl); (case kN => exact rfl); (case kD => kp_flats); (case kR => exact rfl); (case kP => exact rfl); (case kT => exact fun _ => rfl); (case kB => exact fun _ => locs rfl); (((try (case c5 => decide)); (try (case kB => exact locs rfl)); (case c2 => exact rfl); (case c3 => exact rfl); (case c4 => exact rfl); k_whole)); intro D9z o9z g9z L9z h9z tk9z l19z lo9z hs9z fs9z FG9z F9z N9z B9z X9z T9z; (try k_lt l19z); (try dsimp only); (try k_lift B9z); (try k_fold))) | with_reducible (k_here; (with_reducible show wpAny _ _ (call (Value.ref 83) [Value.ref _, Value.str (Str.ofString "X\n") _] _) _ _ _); k_dflt (refine wpAny_call ?_; ((refine' code_def ?k1 ?k2 ?k3 ?k4 ?k5 ?kA ?kF ?kK ?k6 ?k7 ?k8 ?k9 ?kB ?_ ?c2 ?c3 ?c4 ?c5; (((case kA => exact rfl); (case kF => exact rfl); (case kK => first | exact rfl | assumption); (case k1 => k_asm); (case k2 => k_asm); (case k3 => k_asm); (try (case k4 => k_asm)); (case k5 => k_asm); (case k6 => k_is); (case k7 => k_is); (case k8 => ktr_room); (try (case k9 => first | exact BindsTo.of_eq rfl | (refine' kp_binds ?kx ?ke; (case kx => k_in); (case ke => exact fun _ => rfl)))))); (((try (case c5 => decide)); (try (case kB => exact locs rfl)); (case c2 => exact rfl); (case c3 => exact rfl); (case c4 => exact rfl); k_whole)); intro g9z L9z h9z FG9z F9z N9z B9z X9z T9z; (try dsimp only); (try k_lift B9z); (try k_fold))))) | with_reducible (k_here; (with_reducible show wpAny _ _ (call (Value.ref 83) [Value.ref _, Value.str (Str.ofString "a\nb") _] _) _ _ _); k_dflt (refine wpAny_call ?_; ((refine' code_def ?k1 ?k2 ?k3 ?k4 ?k5 ?kA ?kF ?kK ?k6 ?k7 ?k8 ?k9 ?kB ?_ ?c2 ?c3 ?c4 ?c5; (((case kA => exact rfl); (case kF => exact rfl); (case kK => first | exact rfl | assumption); (case k1 => k_asm); (case k2 => k_asm); (case k3 => k_asm); (try (case k4 => k_asm)); (case k5 => k_asm); (case k6 => k_is); (case k7 => k_is); (case k8 => ktr_room); (try (case k9 => first | exact BindsTo.of_eq rfl | (refine' kp_binds ?kx ?ke; (case kx => k_in); (case ke => exact fun _ => rfl)))))); (((try (case c5 => decide)); (try (case kB => exact locs rfl)); (case c2 => exact rfl); (case c3 => exact rfl); (case c4 => exact rfl); k_whole)); intro g9z L9z h9z FG9z F9z N9z B9z X9z T9z; (try dsimp only); (try k_lift B9z); (try k_fold))))) | with_reducible (k_here; (with_reducible show wpAny _ _ (call (Value.builtin "re.Pattern.search") [Value.ref 48, Value.str (Str.ofString "X\n") _]) _ _ _); ((k_dflt (refine' re_found (code := nameCode) ?k1 ?k2 ?kN ?k3 ?k4 ?k5 ?k6 ?k7 ?_; (case k1 => k_asm); (case k2 => k_asm); (case kN => k_asm); (case k3 => k_is); (case k4 => k_is); (case k5 => decide +kernel); (case k6 => exact Nat.le_of_ble_eq_true rfl); (case k7 => exact found_of found2)); intro h9z M99z F9z N9z hM99z hT99z))) | with_reducible (k_here; (with_reducible show wpAny _ _ (call (Value.builtin "re.Pattern.search") [Value.ref 53, Value.str (Str.ofString "a\nb") _]) _ _ _); ((k_dflt (refine' re_found (code := valueCode) ?k1 ?k2 ?kN ?k3 ?k4 ?k5 ?k6 ?k7 ?_; (case k1 => k_asm); (case k2 => k_asm); (case kN => k_asm); (case k3 => k_is); (case k4 => k_is); (case k5 => decide +kernel); (case k6 => exact Nat.le_of_ble_eq_true rfl); (case k7 => exact found_of found1)); intro h9z M99z F9z N9z hM99z hT99z))) | with_reducible (k_here; (with_reducible show wpAny _ _ (truthy (Value.ref _)) _ _ _); (rename Shared.TypeIs _ _ _ => hTm9z); refine truthy_match hTm9z ?_; clear hTm9z) | with_reducible (k_here; (with_reducible show wpAny _ _ (call (Value.ref 182) [Value.ref _]) _ _ _); k_dflt (refine' call_cls ?k1 ?k2 ?k3 ?k4 ?k5 ?k6 ?_; (case k1 => k_asm); (case k2 => k_asm); (case k3 => k_asm); (case k4 => k_is); (case k5 => k_is); (case k6 => k_is); k_whole; intro x9z d9z h9z F9z N9z l19z l29z; (try k_lt l19z); (try k_lt2 l29z); (try k_sweep); ((refine' code_def ?k1 ?k2 ?k3 ?k4 ?k5 ?kA ?kF ?kK ?k6 ?k7 ?k8 ?k9 ?kB ?_ ?c2 ?c3 ?c4 ?c5; (((case kA => exact rfl); (case kF => exact rfl); (case kK => first | exact rfl | assumption); (case k1 => k_asm); (case k2 => k_asm); (case k3 => k_asm); (try (case k4 => k_asm)); (case k5 => k_asm); (case k6 => k_is); (case k7 => k_is); (case k8 => ktr_room); (try (case k9 => first | exact BindsTo.of_eq rfl | (refine' kp_binds ?kx ?ke; (case kx => k_in); (case ke => exact fun _ => rfl)))))); (((try (case c5 => decide)); (try (case kB => exact locs rfl)); (case c2 => exact rfl); (case c3 => exact rfl); (case c4 => exact rfl); k_whole)); intro g9z L9z h9z FG9z F9z N9z B9z X9z T9z; (try dsimp only); (try k_lift B9z); (try k_fold))))) | with_reducible (k_here; (with_reducible show wpAny _ _ (call (Value.ref 83) [Value.ref _, Value.str _ _] _) _ _ _); k_dflt (refine' PureK.use (conv_c _ _ _ _ _ ?kx ?kp) ?k1 ?k2 ?k3 ?k4 ?k5 ?kK ?kd ?ku trivial ?_; (case kx => walk_at "my len"); (case kp => walk_at "my print"); (((case k1 => k_asm); (case k2 => k_asm); (case k3 => k_asm); (case k4 => k_asm); (case k5 => k_asm); (case kK => first | exact rfl | assumption); (case kd => ktr_room); (case ku => ktr_units)))); intro v99z h99z tk99z F99z N99z e99z; (cases e99z); (try dsimp only); (try k_fold)) | with_reducible (k_here; (with_reducible show wpAny _ _ (call (Value.builtin "re.Pattern.search") [Value.ref 53, Value.str _ _]) _ _ _); k_dflt (refine' re_search (code := valueCode) ?k1 ?k2 ?k3 ?k4 ?k5 ?k6 ?k7 ?_; (case k1 => k_asm); (case k2 => k_asm); (case k3 => k_is); (case k4 => k_is); (case k5 => decide +kernel); (case k6 => assumption); (case k7 => exact value_fails (by assumption)))) | with_reducible (k_here; (with_reducible show wpAny _ _ (call (Value.builtin "re.Pattern.search") [Value.ref 48, Value.str _ _]) _ _ _); k_dflt (refine' re_search (code := nameCode) ?k1 ?k2 ?k3 ?k4 ?k5 ?k6 ?k7 ?_; (case k1 => k_asm); (case k2 => k_asm); (case k3 => k_is); (case k4 => k_is); (case k5 => decide +kernel); (case k6 => assumption); (case k7 => exact name_fails (by assumption)))) | with_reducible (k_here; (with_reducible show wpAny _ _ (getMethod (Value.ref _) (Str.ofString "search") _) _ _ _); k_dflt (refine' re_method ?k1 ?k2 ?k3 ?_; (case k1 => k_asm); (case k2 => k_asm); (case k3 => k_is))) | walk1 | (dsimp only; walk1) | (leave1; walk_say "STEP leave1"; try dsimp only))
  (((with_reducible show KeptN _ _ _ _ _); intro low99z; (rename ∀ (v : Value) (h' : Heap) (tk' : Nat), _ => hRet9z); exact hRet9z _ _ _ (by assumption) (kept_news low99z (by assumption)) rfl))
end

theorem at_S0 : True := by w_top off; trivial
/-- the values are lists of texts that lie in the ledger -/
inductive ListsIn (tups : List (Addr × Obj)) : List Value → List (List Str) → Prop
  | nil : ListsIn tups [] []
  | cons {D ys xs vs xss} : (D, LCg.lst ys) ∈ tups → StrsAre ys xs → ListsIn tups vs xss → ListsIn tups (.ref D :: vs) (xs :: xss)
theorem ListsIn.mono {tups tups' : List (Addr × Obj)} {vs : List Value} {xss : List (List Str)} (h : ListsIn tups vs xss) (hs : ∀ p ∈ tups, p ∈ tups') : ListsIn tups' vs xss := by
  induction h with
  | nil => exact .nil
  | cons hm hy _ ih => exact .cons (hs _ hm) hy ih
theorem ListsIn.snoc {tups : List (Addr × Obj)} {vs : List Value} {xss : List (List Str)} {D : Addr} {ys : List Value} {xs : List Str} (h : ListsIn tups vs xss) (hm : (D, LCg.lst ys) ∈ tups) (hy : StrsAre ys xs) : ListsIn tups (vs ++ [.ref D]) (xss ++ [xs]) := by
  induction h with
  | nil => exact .cons hm hy .nil
  | cons hm' hy' _ ih => exact .cons hm' hy' ih
theorem ListsIn.length {tups : List (Addr × Obj)} {vs : List Value} {xss : List (List Str)} (h : ListsIn tups vs xss) : vs.length = xss.length := by
  induction h with
  | nil => rfl
  | cons _ _ _ ih => simp [ih]
theorem reads_strs {h : Heap} {vs : List Value} {xs : List Str} (hi : StrsAre vs xs) : ReadsAll h vs (xs.map PyData.str) [] := by
  induction hi with
  | nil => exact .nil
  | cons y t _ ih => exact ReadsAll.cons (as := []) (bs := []) (.str y t) ih
theorem reads_lists {h₀ h : Heap} {L : Addr} {tups news : List (Addr × Obj)} {vs : List Value} {xss : List (List Str)} (N : News h₀ L h news) (hs : ∀ p ∈ tups, p ∈ news) (hi : ListsIn tups vs xss) : ∃ as, ReadsAll h vs (xss.map fun xs => .list (xs.map PyData.str)) as := by
  induction hi with
  | nil => exact ⟨_, .nil⟩
  | cons hm hy _ ih =>
    obtain ⟨as, r⟩ := ih
    exact ⟨_, .cons (.list (N _ (hs _ hm)).1 rfl rfl (reads_strs hy)) r⟩
noncomputable abbrev datF (xss : List (List Str)) : PyData := .list (xss.map fun xs => .list (xs.map PyData.str))
theorem can_strs : ∀ xs : List Str, (∀ x ∈ xs, PyData.strOk x = true) → PyData.canLayAll0 (xs.map PyData.str) = true ∧ PyData.depthAll (xs.map PyData.str) = 0
  | [], _ => ⟨rfl, rfl⟩
  | x :: r, h => by
    have ih := can_strs r fun y hy => h y (.tail _ hy)
    have hx := h x (.head _)
    constructor
    · simp only [List.map_cons, PyData.canLayAll0, PyData.canLay0, hx, ih.1, Bool.and_self]
    · simp only [List.map_cons, PyData.depthAll, PyData.depth, ih.2]; rfl
theorem can_lists : ∀ xss : List (List Str), (∀ xs ∈ xss, ∀ x ∈ xs, PyData.strOk x = true) → PyData.canLayAll0 (xss.map fun xs => .list (xs.map PyData.str)) = true ∧ PyData.depthAll (xss.map fun xs => PyData.list (xs.map PyData.str)) ≤ 1
  | [], _ => ⟨rfl, Nat.zero_le _⟩
  | x :: r, h => by
    have ih := can_lists r fun y hy => h y (.tail _ hy)
    have hx := can_strs x (h x (.head _))
    constructor
    · simp only [List.map_cons, PyData.canLayAll0, PyData.canLay0, hx.1, ih.1, Bool.and_self]
    · simp only [List.map_cons, PyData.depthAll, PyData.depth, hx.2]; omega
theorem shaped_lists {xss : List (List Str)} (h : ∀ xs ∈ xss, ∀ x ∈ xs, PyData.strOk x = true) : SeqAt.shaped (datF xss) = true ∧ PyData.eqv (datF xss) (datF xss) = true := by
  obtain ⟨h1, h2⟩ := can_lists xss h
  have hc : (datF xss).canLay0 = true := by simp only [PyData.canLay0]; exact h1
  have hd : (datF xss).depth ≤ 64 := by simp only [PyData.depth]; omega
  exact ⟨by unfold SeqAt.shaped; rw [hc]; simpa using hd, SeqAt.eqv_refl _ hc⟩
section
variable {prog : Program} {w : World} {A : Around} {E : Value → Shared → Prop} {s : Shared} {h₀ : Heap} {L : Addr} {m : Str → Option Value} {env : Env}
theorem ne_lists {a b : Addr} {na nb : Nat} {tups news : List (Addr × Obj)} {vs ws : List Value} {xss : List (List Str)} {Q : Value → Shared → Prop} (N : News h₀ L s.heap news) (hs : ∀ p ∈ tups, p ∈ news) (ma : (a, listOf vs.toArray na) ∈ news) (mb : (b, listOf ws.toArray nb) ∈ news) (hi : ListsIn tups vs xss) (hj : ListsIn tups ws xss)
    (hok : ∀ xs ∈ xss, ∀ x ∈ xs, PyData.strOk x = true) (hu : A.units + 64 < cLine) (h : Q (.bool false) s) : wpAny (model prog w) A (compareOp .NotEq (.ref a) (.ref b)) Q E s := by
  obtain ⟨as, ra⟩ := reads_lists N hs hi
  obtain ⟨bs, rb⟩ := reads_lists N hs hj
  obtain ⟨h1, h2⟩ := shaped_lists hok
  refine ne_dataH (.list (N _ ma).1 rfl rfl ra) (.list (N _ mb).1 rfl rfl rb) h1 h1 hu ?_
  rw [h2]; exact h
theorem ne_same {x y : Str} {t u : Tok} {Q : Value → Shared → Prop} (e : x = y) (h : Q (.bool false) s) : wpAny (model prog w) A (compareOp .NotEq (.str x t) (.str y u)) Q E s := by
  subst e
  refine P.ne_str ?_
  have : (x.cps.toList != x.cps.toList) = false := by simp
  rw [this]; exact h
/-- what an element that makes a list of texts must end in -/
noncomputable def ListPost (h₀ : Heap) (L : Addr) (m : Str → Option Value) (news : List (Addr × Obj)) (xs : List Str) (s : Shared) (y : Value) (s₂ : Shared) : Prop :=
  ∃ h' tk' D ys, y = .ref D ∧ s₂ = { s with heap := h', toks := tk' } ∧ Fr h₀ L h' m ∧ News h₀ L h' ((D, LCg.lst ys) :: news) ∧ (∀ p ∈ news, @Ne Nat p.1 D) ∧ StrsAre ys xs
/-- a comprehension whose element makes a list of texts -/
theorem comp_lists {elt : Expr} {x : Str} {scope : Scope} {cl : List (Str × Addr)} {P : Nat → Value → Prop} {S : List (Addr × Obj) → Prop} {Fin : List Value → List (Addr × Obj) → Prop} {news : List (Addr × Obj)} (f : Nat → List Str) (n : Nat) (hS : ∀ ls, S (ls ++ news))
    (step : ∀ i v ls I oI C oC D m₂ h tk ys (E' : Value → Shared → Prop), i < n → P i v → LCg.NsObj oC m₂ → m₂ x = some v → Fr h₀ L h m → News h₀ L h ((I, oI) :: (C, oC) :: (D, LCg.lst ys) :: (ls ++ news)) → LCg.Off3 I C D (ls ++ news) → ((@Ne Nat I C) ∧ (@Ne Nat I D) ∧ (@Ne Nat C D)) →
      wpAny (model prog w) A (eval elt (compEnvC scope cl C env)) (ListPost h₀ L m ((I, oI) :: (C, oC) :: (D, LCg.lst ys) :: (ls ++ news)) (f i) { s with heap := h, toks := tk }) E' { s with heap := h, toks := tk })
    (fin : ∀ ls ys, ListsIn ls ys ((List.range n).map f) → Fin ys (ls ++ news)) : LCg.CompRest prog w A h₀ L m env elt x scope cl s S P Fin n 0 [] news := by
  suffices H : ∀ k i ls ys, i + k = n → ListsIn ls ys ((List.range i).map f) → LCg.CompRest prog w A h₀ L m env elt x scope cl s S P Fin k i ys (ls ++ news) from H n 0 [] [] (by omega) .nil
  intro k
  induction k with
  | zero => intro i ls ys hi hy; have : i = n := by omega
            subst this; exact fin ls ys hy
  | succ k ih =>
    intro i ls ys hi hy v I oI C oC D m₂ h tk E' hP hC hx F N off ne
    refine wpAny_mono (step i v ls I oI C oC D m₂ h tk ys E' (by omega) hP hC hx F N off ne) (fun y s₂ hp => ?_) fun _ _ x => x
    obtain ⟨h', tk', D', ys', rfl, rfl, F', N', hne, hys⟩ := hp
    refine ⟨h', tk', (D', LCg.lst ys') :: (ls ++ news), rfl, F', fun p hp => N' p ?_, ⟨⟨Ne.symm (hne _ (.head _)), Ne.symm (hne _ (.tail _ (.head _))), Ne.symm (hne _ (.tail _ (.tail _ (.head _))))⟩, off⟩, hS ((D', LCg.lst ys') :: ls), ?_⟩
    · rcases List.mem_cons.mp hp with rfl | hp
      · exact .tail _ (.head _)
      · rcases List.mem_cons.mp hp with rfl | hp
        · exact .tail _ (.tail _ (.head _))
        · rcases List.mem_cons.mp hp with rfl | hp
          · exact .tail _ (.tail _ (.tail _ (.head _)))
          · rcases List.mem_cons.mp hp with rfl | hp
            · exact .head _
            · exact .tail _ (.tail _ (.tail _ (.tail _ hp)))
    · refine ih (i + 1) ((D', LCg.lst ys') :: ls) _ (by omega) ?_
      rw [List.range_succ, List.map_append]
      exact (hy.mono fun p hp => .tail _ hp).snoc (.head _) hys
end
noncomputable def isCellB (o : Obj) : Bool := match o.data with | .cell _ => true | _ => false
theorem store_mine {M : Model} {A : Around} {E : Value → Shared → Prop} {s : Shared} {h₀ : Heap} {L c : Addr} {m : Str → Option Value} {env : Env} {x : Str} {v : Value} {v₀ : Option Value} {o : Obj} {news : List (Addr × Obj)} {Q : Unit → Shared → Prop} (keep : List (Addr × Obj)) (F : Fr h₀ L s.heap m) (N : News h₀ L s.heap news) (hk : env.scope.kind = .function) (hl : env.kindOf x = some .cell) (hc : env.cells.lookup x = some c)
    (hm : (c, o) ∈ news) (hd : o.data = .cell v₀) (sub : ∀ p ∈ keep, p ∈ news) (hne : ∀ p ∈ keep, @Ne Nat p.1 c ∨ isCellB p.2 = false)
    (h : ∀ h' o', Fr h₀ L h' m → News h₀ L h' ((c, o') :: keep) → o'.data = .cell (some v) → Q () { s with heap := h' }) : wpAny M A (storeName env x v) Q E s := by
  refine wpAny_storeName_cell hk hl hc ⟨o, (N _ hm).1, hd⟩ fun h' hc' hs' => ?_
  obtain ⟨o', ho', hd'⟩ := hc'
  refine h h' o' (F.change hs' (N _ hm).2.1 (N _ hm).2.2) (fun p hp => ?_) hd'
  rcases List.mem_cons.mp hp with rfl | hp
  · exact ⟨ho', (N _ hm).2⟩
  · have hpc : @Ne Nat p.1 c := by
      rcases hne p hp with h1 | h1
      · exact h1
      · intro e
        have e' : p.1 = c := e
        have h2 := (N _ (sub p hp)).1
        rw [e', (N _ hm).1] at h2
        have h3 : o = p.2 := Option.some.inj h2
        rw [← h3] at h1
        unfold isCellB at h1
        rw [hd] at h1; cases h1
    exact ⟨(hs'.2 _ hpc).trans (N _ (sub p hp)).1, (N _ (sub p hp)).2⟩
/-- the tuples alone of a ledger that bears the rows -/
theorem rows_core {tups : List (Addr × Obj)} {vs : List Value} {rows : List (Str × Str)} (h : RowsIn tups vs rows) : ∃ core, (∀ p ∈ core, p ∈ tups ∧ isCellB p.2 = false) ∧ RowsIn core vs rows := by
  induction h with
  | nil => exact ⟨[], (fun _ hp => nomatch hp), .nil⟩
  | @cons T a b t u vs rows hm _ ih =>
    obtain ⟨core, hc, hr⟩ := ih
    refine ⟨(T, tupObj [.str a t, .str b u]) :: core, fun p hp => ?_, .cons (.head _) (hr.mono fun p hp => .tail _ hp)⟩
    rcases List.mem_cons.mp hp with rfl | hp
    · exact ⟨hm, rfl⟩
    · exact hc p hp
noncomputable def rowF (p : Str × Str) : Str := p.1 ++ Str.ofString ": " ++ p.2 ++ Str.ofString "\x0d\n"
noncomputable def dueF (rows : List (Str × Str)) : Str := Txt.join (Str.ofString "") (rows.map rowF) ++ Str.ofString "\x0d\n"
theorem str_ext {a b : Str} (h : a.cps.toList = b.cps.toList) : a = b := by
  obtain ⟨⟨x⟩⟩ := a; obtain ⟨⟨y⟩⟩ := b
  have h' : x = y := h
  rw [h']
theorem str_nil_append (a : Str) : Str.ofString "" ++ a = a := str_ext (by show (#[] ++ a.cps).toList = _; simp)
theorem str_append_nil (a : Str) : a ++ Str.ofString "" = a := str_ext (by show (a.cps ++ #[]).toList = _; simp)
theorem str_assoc (a b c : Str) : a ++ b ++ c = a ++ (b ++ c) := str_ext (by show ((a.cps ++ b.cps) ++ c.cps).toList = (a.cps ++ (b.cps ++ c.cps)).toList; simp)
theorem join_cons2 (sep a b : Str) (r : List Str) : Str.join sep (a :: b :: r) = a ++ sep ++ Str.join sep (b :: r) := rfl
theorem txt_join (sep : Str) (xs : List Str) : Txt.join sep xs = Str.join sep xs := by rw [← StrLaws.glued_eq_join]; rfl
theorem join_lines : ∀ (sep : Str) (ls : List Str), Str.join sep (ls ++ [Str.ofString "", Str.ofString ""]) = Str.join (Str.ofString "") (ls.map fun l => l ++ sep) ++ sep
  | sep, [] => by
    show Str.ofString "" ++ sep ++ Str.ofString "" = Str.ofString "" ++ sep
    rw [str_append_nil]
  | sep, [a] => by
    show a ++ sep ++ (Str.ofString "" ++ sep ++ Str.ofString "") = (a ++ sep) ++ sep
    rw [str_append_nil, str_nil_append]
  | sep, a :: b :: r => by
    have ih := join_lines sep (b :: r)
    show a ++ sep ++ Str.join sep (b :: r ++ [Str.ofString "", Str.ofString ""]) = (a ++ sep ++ Str.ofString "" ++ Str.join (Str.ofString "") ((b :: r).map fun l => l ++ sep)) ++ sep
    rw [ih, str_append_nil, str_assoc (a ++ sep)]
theorem str_eq (rows : List (Str × Str)) : strF rows = dueF rows := by
  unfold strF dueF
  rw [txt_join, txt_join, join_lines]
  have e : (rows.map lineF).map (fun l => l ++ Str.ofString "\x0d\n") = rows.map rowF := by rw [List.map_map]; rfl
  rw [e]
theorem dues_sum : ∀ (rows : List (Str × Str)), (∀ p ∈ rows, p.1.length ≤ 100 ∧ p.2.length ≤ 10000) → ((rows.map rowF).map (·.length)).sum + (rows.map rowF).length ≤ 10200 * rows.length
  | [], _ => by simp
  | p :: r, h => by
    have ih := dues_sum r fun q hq => h q (.tail _ hq)
    have h1 := h p (.head _)
    have h2 : (rowF p).length = p.1.length + 2 + p.2.length + 2 := by unfold rowF; rw [Str.length_append, Str.length_append, Str.length_append]; rfl
    simp only [List.map_cons, List.sum_cons, List.length_cons] at ih ⊢
    omega
theorem dues_sum' {rows : List (Str × Str)} (hr : ∀ p ∈ rows, p.1.length ≤ 100 ∧ p.2.length ≤ 10000) (hn : rows.length ≤ 100) : ((rows.map rowF).map (·.length)).sum + (rows.map rowF).length ≤ 1048576 := by
  have := dues_sum rows hr; omega
theorem join_len0 {xs : List Str} (h : (xs.map (·.length)).sum + xs.length ≤ 1048576) : (Txt.join (Str.ofString "") xs).length ≤ 1048576 := by
  have h1 := StrLaws.join_length_le (Str.ofString "") xs
  rw [← StrLaws.glued_eq_join] at h1
  have h2 : xs.length * (Str.ofString "").length = 0 := Nat.mul_zero _
  show (Builtin.Str.glued (Str.ofString "") xs).length ≤ _
  omega

theorem at_U1 : True := by w_top off; trivial
section
variable {prog : Program} {w : World} {A : Around} {E : Value → Shared → Prop} {s₁ : Shared} {h₀ : Heap} {L : Addr} {m : Str → Option Value} {env : Env}
theorem srcPT_rows {ct elt : Expr} {x x₂ : Str} {scope : Scope} {cl : List (Str × Addr)} {Q : Value → Shared → Prop} {ax : Addr} {k : Nat} {us : List Value} {tups news : List (Addr × Obj)} {rows : List (Str × Str)} (g : Str × Str → Option Str) (hI : RowsIn tups us rows) (hs : ∀ p ∈ tups, p ∈ news) (F : Fr h₀ L s₁.heap m) (N : News h₀ L s₁.heap news) (hm : (ax, listOf us.toArray k) ∈ news) (hsz : us.length ≤ 1000)
    (step : ∀ a b t u I oI C oC D m₂ h tk ys (E' : Value → Shared → Prop), (a, b) ∈ rows → LCg.NsObj oC m₂ → m₂ x = some (.str a t) → m₂ x₂ = some (.str b u) → Fr h₀ L h m → News h₀ L h ((I, oI) :: (C, oC) :: (D, LCg.lst ys) :: news) → LCg.Off3 I C D news →
      wpAny (model prog w) A (isTrue ct (compEnvC scope cl C env) (eval ct (compEnvC scope cl C env))) (fun ok s' => if ok = true then wpAny (model prog w) A (eval elt (compEnvC scope cl C env)) (FiltPost h₀ L m ((I, oI) :: (C, oC) :: (D, LCg.lst ys) :: news) (g (a, b)) { s₁ with heap := h, toks := tk }) E' s'
        else FiltEnd h₀ L m ((I, oI) :: (C, oC) :: (D, LCg.lst ys) :: news) (g (a, b)) { s₁ with heap := h, toks := tk } s') E' { s₁ with heap := h, toks := tk })
    (fin : ∀ D h tk ys, StrsAre ys (rows.filterMap g) → Fr h₀ L h m → News h₀ L h ((D, LCg.lst ys) :: news) → LCg.Off1 D news → Q (.ref D) { s₁ with heap := h, toks := tk }) :
    SrcPT prog w A h₀ L m env ct elt x x₂ scope cl Q (.ref ax) s₁ := by
  have hlen := hI.length
  refine ⟨ax, us.toArray, k, news, fun i ys nx => nx = news ∧ StrsAre ys ((List.range i).filterMap fun i => g (rowAt rows i)), rfl, F, N, by rw [List.size_toArray, sizeLine_eq]; omega, fun i ys nx hJ => hJ.1 ▸ hm, ⟨rfl, .nil⟩, fun i v ys nx hv hJ => ?_, fun D h tk ys nx hJ F' N' o => ?_⟩
  · obtain ⟨rfl, hy⟩ := hJ
    rw [List.getElem?_toArray] at hv
    obtain ⟨T, a, b, t, u, rfl, hm', hr⟩ := rows_get hI i v hv
    refine ⟨T, .str a t, .str b u, rfl, hs _ hm', fun I oI C oC D m₂ h tk E' hC hx hx2 F' N' off => ?_⟩
    refine wpAny_mono (step a b t u I oI C oC D m₂ h tk ys E' (List.mem_of_getElem? hr) hC hx hx2 F' N' off) (fun ok s' hok => ?_) fun _ _ e => e
    have hstep : (List.range (i + 1)).filterMap (fun i => g (rowAt rows i)) = (List.range i).filterMap (fun i => g (rowAt rows i)) ++ (match g (a, b) with | some r => [r] | none => []) := by
      rw [List.range_succ, List.filterMap_append, List.filterMap_cons, rowAt_of hr, List.filterMap_nil]
      cases g (a, b) <;> rfl
    cases ok with
    | true =>
      rw [if_pos rfl] at hok ⊢
      refine wpAny_mono hok (fun y s₂ hp => ?_) fun _ _ e => e
      obtain ⟨r, hg, h', tk', t, rfl, rfl, F2, N2⟩ := hp
      refine ⟨h', tk', oC, nx, rfl, F2, N2, ⟨m₂, hC⟩, off, rfl, ?_⟩
      rw [hstep, hg]; exact strs_snoc hy
    | false =>
      rw [if_neg Bool.false_ne_true] at hok ⊢
      obtain ⟨hg, h', tk', rfl, F2, N2⟩ := hok
      refine ⟨h', tk', oC, nx, rfl, F2, N2, ⟨m₂, hC⟩, off, rfl, ?_⟩
      rw [hstep, hg, List.append_nil]; exact hy
  · obtain ⟨rfl, hy⟩ := hJ
    rw [List.size_toArray, hlen, rows_fm] at hy
    exact fin D h tk ys hy F' N' o
theorem srcA_lists {elt : Expr} {x : Str} {scope : Scope} {cl : List (Str × Addr)} {Q : Value → Shared → Prop} {ax : Addr} {its : Array Value} {k : Nat} {news : List (Addr × Obj)} (f : Nat → List Str) (F : Fr h₀ L s₁.heap m) (N : News h₀ L s₁.heap news) (hm : (ax, listOf its k) ∈ news) (hsz : its.size ≤ sizeLine)
    (turn : ∀ i v ls ys I oI C oC c oc D h tk (E' : Value → Shared → Prop), its[i]? = some v → oc.data = .cell (some v) → Fr h₀ L h m → News h₀ L h ((I, oI) :: (C, oC) :: (D, LCg.lst ys) :: (c, oc) :: (ls ++ news)) →
      wpAny (model prog w) A (eval elt (compEnvC scope ((x, c) :: cl) C env)) (ListPost h₀ L m ((I, oI) :: (C, oC) :: (D, LCg.lst ys) :: (c, oc) :: (ls ++ news)) (f i) { s₁ with heap := h, toks := tk }) E' { s₁ with heap := h, toks := tk })
    (fin : ∀ D h tk ls ys, ListsIn ls ys ((List.range its.size).map f) → Fr h₀ L h m → News h₀ L h ((D, LCg.lst ys) :: (ls ++ news)) → Q (.ref D) { s₁ with heap := h, toks := tk }) :
    SrcA prog w A h₀ L m env elt x scope cl Q (.ref ax) s₁ := by
  refine ⟨ax, its, k, news, fun i ys nx => ∃ ls, nx = ls ++ news ∧ ListsIn ls ys ((List.range i).map f), rfl, F, N, hsz, fun i ys nx hJ => ?_, ⟨[], rfl, .nil⟩, fun i v ys nx I oI C oC c oc D h tk E' hv hJ hoc hC F' N' off offc => ?_, fun D h tk ys nx hJ F' N' _ => ?_⟩
  · obtain ⟨ls, rfl, _⟩ := hJ; exact List.mem_append_right _ hm
  · obtain ⟨ls, rfl, hl⟩ := hJ
    refine wpAny_mono (turn i v ls ys I oI C oC c oc D h tk E' hv hoc F' N') (fun y s₂ hp => ?_) fun _ _ e => e
    obtain ⟨h', tk', D', ys', rfl, rfl, F2, N2, hne, hy⟩ := hp
    refine ⟨h', tk', oC, (c, oc) :: ((D', LCg.lst ys') :: (ls ++ news)), rfl, F2, fun p hp => N2 p ?_, hC, ⟨off.1, ⟨Ne.symm (hne _ (.head _)), Ne.symm (hne _ (.tail _ (.head _))), Ne.symm (hne _ (.tail _ (.tail _ (.head _))))⟩, off.2⟩, (D', LCg.lst ys') :: (ls ++ news), rfl, ⟨Ne.symm (hne _ (.tail _ (.tail _ (.tail _ (.head _))))), offc⟩, (D', LCg.lst ys') :: ls, rfl, ?_⟩
    · rcases List.mem_cons.mp hp with rfl | hp
      · exact .tail _ (.head _)
      rcases List.mem_cons.mp hp with rfl | hp
      · exact .tail _ (.tail _ (.head _))
      rcases List.mem_cons.mp hp with rfl | hp
      · exact .tail _ (.tail _ (.tail _ (.head _)))
      rcases List.mem_cons.mp hp with rfl | hp
      · exact .tail _ (.tail _ (.tail _ (.tail _ (.head _))))
      rcases List.mem_cons.mp hp with rfl | hp
      · exact .head _
      · exact .tail _ (.tail _ (.tail _ (.tail _ (.tail _ hp))))
    · rw [List.range_succ, List.map_append]
      exact (hl.mono fun p hp => .tail _ hp).snoc (.head _) hy
  · obtain ⟨ls, rfl, hl⟩ := hJ
    exact fin D h tk ls ys hl F' N'
end

theorem at_T1 : True := by w_top off; trivial
theorem app_cut {c : Nat} : ∀ {p q a b : List Nat}, c ∉ p → c ∉ q → p ++ c :: a = q ++ c :: b → p = q ∧ a = b
  | [], [], a, b, _, _, h => ⟨rfl, by simpa using h⟩
  | [], y :: q, a, b, _, hq, h => by
    simp only [List.nil_append, List.cons_append, List.cons.injEq] at h
    exact absurd (h.1 ▸ List.Mem.head _) hq
  | x :: p, [], a, b, hp, _, h => by
    simp only [List.nil_append, List.cons_append, List.cons.injEq] at h
    exact absurd (h.1 ▸ List.Mem.head _) hp
  | x :: p, y :: q, a, b, hp, hq, h => by
    simp only [List.cons_append, List.cons.injEq] at h
    have ih := app_cut (fun hx => hp (.tail _ hx)) (fun hx => hq (.tail _ hx)) h.2
    exact ⟨by rw [h.1, ih.1], ih.2⟩
theorem toList_app (a b : Str) : (a ++ b).cps.toList = a.cps.toList ++ b.cps.toList := by show (a.cps ++ b.cps).toList = _; simp
theorem join_inj (c : Nat) : ∀ ps qs : List Str, ps ≠ [] → qs ≠ [] → (∀ p ∈ ps, c ∉ p.cps.toList) → (∀ q ∈ qs, c ∉ q.cps.toList) → Str.join ⟨#[c]⟩ ps = Str.join ⟨#[c]⟩ qs → ps = qs
  | [], _, h, _, _, _, _ => absurd rfl h
  | _, [], _, h, _, _, _ => absurd rfl h
  | [p], [q], _, _, _, _, h => by
    have h' : p = q := h
    rw [h']
  | [p], q :: q2 :: r, _, _, hp, _, h => by
    have h' : p = q ++ ⟨#[c]⟩ ++ Str.join ⟨#[c]⟩ (q2 :: r) := h
    have h2 := hp p (.head _)
    rw [h', toList_app, toList_app] at h2
    exact absurd (List.mem_append_left _ (List.mem_append_right _ (List.Mem.head _))) h2
  | p :: p2 :: r, [q], _, _, _, hq, h => by
    have h' : p ++ ⟨#[c]⟩ ++ Str.join ⟨#[c]⟩ (p2 :: r) = q := h
    have h2 := hq q (.head _)
    rw [← h', toList_app, toList_app] at h2
    exact absurd (List.mem_append_left _ (List.mem_append_right _ (List.Mem.head _))) h2
  | p :: p2 :: r, q :: q2 :: t, _, _, hp, hq, h => by
    have h' : p ++ ⟨#[c]⟩ ++ Str.join ⟨#[c]⟩ (p2 :: r) = q ++ ⟨#[c]⟩ ++ Str.join ⟨#[c]⟩ (q2 :: t) := h
    have h2 := congrArg (fun s : Str => s.cps.toList) h'
    simp only [toList_app, List.append_assoc] at h2
    have h3 := app_cut (hp p (.head _)) (hq q (.head _)) (by simpa using h2)
    have ih := join_inj c (p2 :: r) (q2 :: t) (by simp) (by simp) (fun x hx => hp x (.tail _ hx)) (fun x hx => hq x (.tail _ hx)) (str_ext h3.2)
    rw [ih, str_ext h3.1]
theorem slash_is : Str.ofString "/" = ⟨#[47]⟩ := by decide +kernel
theorem split_cons (l : List Nat) : Txt.split ⟨(47 :: l).toArray⟩ (Str.ofString "/") = Str.ofString "" :: Txt.split ⟨l.toArray⟩ (Str.ofString "/") := by
  have hne := split_ne (⟨l.toArray⟩ : Str)
  refine join_inj 47 _ _ (split_ne _) (by simp) ?_ ?_ ?_
  · rw [slash_is]; exact StrLaws.split_free _ 47
  · intro q hq
    rcases List.mem_cons.mp hq with rfl | hq
    · exact fun h => nomatch h
    · rw [slash_is] at hq; exact StrLaws.split_free _ 47 q hq
  · rw [slash_is, StrLaws.join_split]
    have e := StrLaws.join_split (⟨l.toArray⟩ : Str) ⟨#[47]⟩
    rw [slash_is] at hne
    cases hs : Txt.split (⟨l.toArray⟩ : Str) ⟨#[47]⟩ with
    | nil => exact absurd hs hne
    | cons a r =>
      rw [hs] at e
      show _ = Str.ofString "" ++ ⟨#[47]⟩ ++ Str.join ⟨#[47]⟩ (a :: r)
      rw [e]
      refine str_ext ?_
      rw [toList_app, toList_app]; simp; rfl
theorem plainL_empty (xs : List Str) : plainL (Str.ofString "" :: xs) = plainL xs := by
  show (Str.ofString "" :: xs).foldl plainStep [] = _
  rw [List.foldl_cons]
  have : plainStep [] (Str.ofString "") = [] := by decide +kernel
  rw [this]; rfl
theorem norm_fold {root : Str} (hr : root ≠ Str.ofString "") : ∀ (xs acc : List Str), Str.ofString ".." ∉ acc → xs.foldl (normStep root) acc = xs.foldl plainStep acc
  | [], _, _ => rfl
  | c :: r, acc, h => by
    have hstep : normStep root acc c = plainStep acc c ∧ Str.ofString ".." ∉ plainStep acc c := by
      unfold normStep plainStep
      by_cases h1 : c = Str.ofString ".."
      · have h2 : ¬ (c = Str.ofString "" ∨ c = Str.ofString ".") := by rw [h1]; decide +kernel
        have h3 : ¬ (c ≠ Str.ofString ".." ∨ (root = Str.ofString "" ∧ acc = []) ∨ (acc ≠ [] ∧ acc.getLast? = some (Str.ofString ".."))) := by
          rintro (h3 | ⟨h3, _⟩ | ⟨_, h3⟩)
          · exact h3 h1
          · exact hr h3
          · exact h (List.mem_of_getLast? h3)
        rw [if_neg h2, if_neg h3, if_pos h1]
        exact ⟨rfl, fun hm => h (List.dropLast_subset _ hm)⟩
      · rw [if_neg h1]
        by_cases h2 : c = Str.ofString "" ∨ c = Str.ofString "."
        · rw [if_pos h2, if_pos h2]; exact ⟨rfl, h⟩
        · rw [if_neg h2, if_neg h2, if_pos (.inl h1)]
          refine ⟨rfl, fun hm => ?_⟩
          rcases List.mem_append.mp hm with hm | hm
          · exact h hm
          · exact h1 (List.mem_singleton.mp hm).symm
    rw [List.foldl_cons, List.foldl_cons, hstep.1]
    exact norm_fold hr r _ hstep.2
theorem normL_plain {root : Str} (hr : root ≠ Str.ofString "") (xs : List Str) : normL root xs = plainL xs := norm_fold hr xs [] (fun h => nomatch h)
theorem slice_is (x : Str) (l u : Option Int) : Txt.slice x l u = StrLaws.sliceText x l u := rfl
/-- what the two need of the head of an absolute path -/
theorem head_facts (l : List Nat) : Txt.slice (⟨(47 :: l).toArray⟩ : Str) none (some 1) = Str.ofString "/" ∧
    ((Txt.slice (⟨(47 :: l).toArray⟩ : Str) (some 1) (some 2) ≠ Str.ofString "/" ∨ Txt.slice (⟨(47 :: l).toArray⟩ : Str) (some 2) (some 3) = Str.ofString "/") ∧ Txt.slice (⟨(47 :: l).toArray⟩ : Str) (some 1) none = ⟨l.toArray⟩ ∧ aheadF ⟨(47 :: l).toArray⟩ = Str.ofString "/" ∨
     ∃ r, l = 47 :: r ∧ ¬ (Txt.slice (⟨(47 :: l).toArray⟩ : Str) (some 1) (some 2) ≠ Str.ofString "/" ∨ Txt.slice (⟨(47 :: l).toArray⟩ : Str) (some 2) (some 3) = Str.ofString "/") ∧ Txt.slice (⟨(47 :: l).toArray⟩ : Str) (some 2) none = ⟨r.toArray⟩ ∧ Txt.slice (⟨(47 :: l).toArray⟩ : Str) none (some 2) = Str.ofString "//" ∧ aheadF ⟨(47 :: l).toArray⟩ = Str.ofString "//") := by
  have s1 : Txt.slice (⟨(47 :: l).toArray⟩ : Str) none (some 1) = Str.ofString "/" := by
    rw [slice_is, StrLaws.sliceText_to (by simp; omega), slash_is]; rfl
  have s4 : Txt.slice (⟨(47 :: l).toArray⟩ : Str) (some 1) none = ⟨l.toArray⟩ := by
    rw [slice_is, StrLaws.sliceText_from (by simp; omega)]
    refine str_ext ?_
    simp
  refine ⟨s1, ?_⟩
  match l with
  | [] => exact .inl ⟨.inl (by decide +kernel), s4, by decide +kernel⟩
  | [a] =>
    have t2 : Txt.slice (⟨(47 :: [a]).toArray⟩ : Str) none (some 2) = ⟨#[47, a]⟩ := by
      rw [slice_is, StrLaws.sliceText_to (by simp)]; rfl
    have t12 : Txt.slice (⟨(47 :: [a]).toArray⟩ : Str) (some 1) (some 2) = ⟨#[a]⟩ := by
      rw [slice_is, StrLaws.sliceText_plain (by simp)]; rfl
    have t23 : Txt.slice (⟨(47 :: [a]).toArray⟩ : Str) (some 2) (some 3) = ⟨#[]⟩ := by rfl
    by_cases ha : a = 47
    · subst ha
      refine .inr ⟨[], rfl, ?_, ?_, ?_, ?_⟩
      · decide +kernel
      · decide +kernel
      · decide +kernel
      · decide +kernel
    · refine .inl ⟨.inl ?_, s4, ?_⟩
      · rw [t12, slash_is]; intro h
        have : a = 47 := by simpa using h
        exact ha this
      · unfold aheadF
        rw [t2, if_neg]
        rintro ⟨h, _⟩
        have h2 : Str.ofString "//" = ⟨#[47, 47]⟩ := by decide +kernel
        rw [h2] at h
        have : a = 47 := by simpa using h
        exact ha this
  | a :: b :: r =>
    have t2 : Txt.slice (⟨(47 :: a :: b :: r).toArray⟩ : Str) none (some 2) = ⟨#[47, a]⟩ := by
      rw [slice_is, StrLaws.sliceText_to (by simp; omega)]; rfl
    have t12 : Txt.slice (⟨(47 :: a :: b :: r).toArray⟩ : Str) (some 1) (some 2) = ⟨#[a]⟩ := by
      rw [slice_is, StrLaws.sliceText_plain (by simp; omega)]; rfl
    have t23 : Txt.slice (⟨(47 :: a :: b :: r).toArray⟩ : Str) (some 2) (some 3) = ⟨#[b]⟩ := by
      rw [slice_is, StrLaws.sliceText_plain (by simp; omega)]; rfl
    have s5 : Txt.slice (⟨(47 :: a :: b :: r).toArray⟩ : Str) (some 2) none = ⟨(b :: r).toArray⟩ := by
      rw [slice_is, StrLaws.sliceText_from (by simp; omega)]
      refine str_ext ?_
      show ((47 :: a :: b :: r).drop 2).take _ = b :: r
      exact List.take_of_length_le (by simp; omega)
    have h2 : Str.ofString "//" = ⟨#[47, 47]⟩ := by decide +kernel
    by_cases ha : a = 47
    · subst ha
      by_cases hb : b = 47
      · subst hb
        refine .inl ⟨.inr (by rw [t23, slash_is]), s4, ?_⟩
        unfold aheadF
        rw [if_neg]
        rintro ⟨_, h⟩
        exact h (by rw [t23, slash_is])
      · have hb' : Txt.slice (⟨(47 :: 47 :: b :: r).toArray⟩ : Str) (some 2) (some 3) ≠ Str.ofString "/" := by
          rw [t23, slash_is]; intro h
          have : b = 47 := by simpa using h
          exact hb this
        refine .inr ⟨b :: r, rfl, ?_, s5, by rw [t2, h2], ?_⟩
        · rintro (h | h)
          · exact h (by rw [t12, slash_is])
          · exact hb' h
        · unfold aheadF
          rw [if_pos ⟨by rw [t2, h2], hb'⟩]
    · refine .inl ⟨.inl ?_, s4, ?_⟩
      · rw [t12, slash_is]; intro h
        have : a = 47 := by simpa using h
        exact ha this
      · unfold aheadF
        rw [t2, if_neg]
        rintro ⟨h, _⟩
        rw [h2] at h
        have : a = 47 := by simpa using h
        exact ha this
theorem norm_plain (l : List Nat) : normF ⟨(47 :: l).toArray⟩ = plainF ⟨(47 :: l).toArray⟩ := by
  obtain ⟨s1, h⟩ := head_facts l
  have hp : normP ⟨(47 :: l).toArray⟩ = plainF ⟨(47 :: l).toArray⟩ ∧ (normP ⟨(47 :: l).toArray⟩).length ≠ 0 := by
    unfold normP plainF
    rcases h with ⟨h1, s4, ha⟩ | ⟨r, rfl, h1, s5, s2, ha⟩
    · have hroot : rootOf ⟨(47 :: l).toArray⟩ = Str.ofString "/" := by unfold rootOf; rw [if_neg (by rw [s1]; simp), if_pos h1]
      have hrest : restOf ⟨(47 :: l).toArray⟩ = ⟨l.toArray⟩ := by unfold restOf; rw [if_neg (by rw [s1]; simp), if_pos h1, s4]
      rw [hroot, hrest, ha, normL_plain (by decide +kernel), split_cons, plainL_empty]
      refine ⟨rfl, ?_⟩
      rw [Str.length_append]; have : (Str.ofString "/").length = 1 := rfl
      omega
    · have hroot : rootOf ⟨(47 :: 47 :: r).toArray⟩ = Str.ofString "//" := by unfold rootOf; rw [if_neg (by rw [s1]; simp), if_neg h1, s2]
      have hrest : restOf ⟨(47 :: 47 :: r).toArray⟩ = ⟨r.toArray⟩ := by unfold restOf; rw [if_neg (by rw [s1]; simp), if_neg h1, s5]
      rw [hroot, hrest, ha, normL_plain (by decide +kernel), split_cons, plainL_empty, split_cons, plainL_empty]
      refine ⟨rfl, ?_⟩
      rw [Str.length_append]; have : (Str.ofString "//").length = 2 := rfl
      omega
  unfold normF
  have h0 : ¬ (⟨(47 :: l).toArray⟩ : Str).length = 0 := by show ¬ (47 :: l).toArray.size = 0; simp
  rw [if_neg h0, if_neg hp.2, hp.1]

theorem at_T2 : True := by w_top off; trivial
noncomputable def Good (d : Str) : Prop := d.length ≤ 100 ∧ ((lastF (plainF d)).cps.all (· < 128) = true ∧ (lastF (plainF d)).cps.size ≤ 1000) ∧ ((normF d).length ≤ 1000 ∧ Printable (normF d) ∧ (baseF (normF d)).length ≤ 1000 ∧ Printable (baseF (normF d))) ∧ rowsA d = rowsD d ∧ (∀ p ∈ rowsD d, p.1.length ≤ 100 ∧ p.2.length ≤ 10000 ∧ Printable p.2)
theorem join_mem {c : Nat} {sep : Str} : ∀ {ys : List Str}, c ∈ (Str.join sep ys).cps.toList → c ∈ sep.cps.toList ∨ ∃ y ∈ ys, c ∈ y.cps.toList
  | [], h => nomatch h
  | [a], h => .inr ⟨a, .head _, h⟩
  | a :: b :: r, h => by
    have h' : c ∈ (a ++ sep ++ Str.join sep (b :: r)).cps.toList := h
    rw [toList_app, toList_app] at h'
    rcases List.mem_append.mp h' with h' | h'
    · rcases List.mem_append.mp h' with h' | h'
      · exact .inr ⟨a, .head _, h'⟩
      · exact .inl h'
    · rcases join_mem h' with h2 | ⟨y, hy, h2⟩
      · exact .inl h2
      · exact .inr ⟨y, .tail _ hy, h2⟩
theorem mem_join {c : Nat} {sep y : Str} : ∀ {ys : List Str}, y ∈ ys → c ∈ y.cps.toList → c ∈ (Str.join sep ys).cps.toList
  | [], h, _ => nomatch h
  | [a], h, hc => by rw [← List.mem_singleton.mp h]; exact hc
  | a :: b :: r, h, hc => by
    show c ∈ (a ++ sep ++ Str.join sep (b :: r)).cps.toList
    rw [toList_app, toList_app]
    rcases List.mem_cons.mp h with rfl | h
    · exact List.mem_append_left _ (List.mem_append_left _ hc)
    · exact List.mem_append_right _ (mem_join h hc)
theorem split_chars {x y : Str} {c : Nat} (hy : y ∈ Txt.split x (Str.ofString "/")) (hc : c ∈ y.cps.toList) : c ∈ x.cps.toList := by
  have h := mem_join (sep := Str.ofString "/") hy hc
  rw [StrLaws.join_split] at h; exact h
theorem fold_sub {y : Str} : ∀ {xs acc : List Str}, y ∈ xs.foldl plainStep acc → y ∈ acc ∨ y ∈ xs
  | [], _, h => .inl h
  | c :: r, acc, h => by
    rw [List.foldl_cons] at h
    rcases fold_sub h with h | h
    · unfold plainStep at h
      split at h
      · exact .inl (List.dropLast_subset _ h)
      · split at h
        · exact .inl h
        · rcases List.mem_append.mp h with h | h
          · exact .inl h
          · rw [List.mem_singleton.mp h]; exact .inr (.head _)
    · exact .inr (.tail _ h)
theorem plain_sub {y : Str} {xs : List Str} (h : y ∈ plainL xs) : y ∈ xs := (fold_sub h).elim (fun h => nomatch h) id
theorem slash_print : Printable (Str.ofString "/") := by unfold Printable; decide +kernel
theorem plain_print {d : Str} (h : Printable d) : Printable (plainF d) := by
  intro c hc
  unfold plainF at hc
  rw [toList_app] at hc
  rcases List.mem_append.mp hc with hc | hc
  · have h2 : Printable (Str.ofString "//") := by unfold Printable; decide +kernel
    unfold aheadF at hc
    split at hc
    · exact h2 c hc
    · exact slash_print c hc
  · rw [txt_join] at hc
    rcases join_mem hc with hc | ⟨y, hy, hc⟩
    · exact slash_print c hc
    · exact h c (split_chars (plain_sub hy) hc)
theorem plain_len (d : Str) : (plainF d).length ≤ d.length + 3 := by
  unfold plainF
  rw [Str.length_append]
  have h1 : (aheadF d).length ≤ 2 := by unfold aheadF; split <;> decide
  have h2 := wt_plainL (Txt.split d (Str.ofString "/"))
  have h3 := wt_split d (Str.ofString "/") (by decide)
  by_cases hq : plainL (Txt.split d (Str.ofString "/")) = []
  · rw [hq]; have : (Txt.join (Str.ofString "/") []).length = 0 := rfl
    omega
  · have h4 := wt_join (Str.ofString "/") (by decide) _ hq
    have h5 : (Txt.join (Str.ofString "/") (plainL (Txt.split d (Str.ofString "/")))).length = (Str.join (Str.ofString "/") (plainL (Txt.split d (Str.ofString "/")))).length := by rw [txt_join]
    omega
theorem last_facts {p : Str} (h : Printable p) : Printable (lastF p) ∧ (lastF p).length ≤ p.length := by
  unfold lastF
  cases e : (Txt.split p (Str.ofString "/")).getLast? with
  | none => exact ⟨(fun c hc => nomatch hc), Nat.zero_le _⟩
  | some y =>
    have hy := List.mem_of_getLast? e
    exact ⟨fun c hc => h c (split_chars hy hc), part_short hy⟩
theorem base_facts {p : Str} (h : Printable p) : Printable (baseF p) ∧ (baseF p).length ≤ p.length := by
  refine ⟨fun c hc => ?_, Txt.slice_le _ _ _⟩
  unfold baseF Txt.slice at hc
  split at hc
  · exact h c hc
  · obtain ⟨i, _, hi⟩ := List.mem_filterMap.mp (show c ∈ List.filterMap _ _ from hc)
    obtain ⟨h1, h2⟩ := Array.getElem?_eq_some_iff.mp hi
    exact h c (by rw [← h2]; simp)
theorem ascii_of {x : Str} (h : Printable x) : x.cps.all (· < 128) = true := by
  rw [Array.all_eq_true']
  intro c hc
  have := (h c (by simpa using hc)).2
  simp; omega
theorem key_facts : ∀ q ∈ siteC, (q.2.fdiv 4096 = 8 ∧ (q.2.fdiv 4).fmod 2 = 1) → cdA q.1 = cdF q.1 ∧ (cdF q.1).length ≤ 10000 ∧ (∀ c ∈ (cdF q.1).cps.toList, 32 ≤ c ∧ c ≤ 126) := by decide +kernel
theorem site_key {x : Str} {m : Int} (h : siteF x = some m) (hq : m.fdiv 4096 = 8 ∧ (m.fdiv 4).fmod 2 = 1) : cdA x = cdF x ∧ (cdF x).length ≤ 10000 ∧ Printable (cdF x) := by
  obtain ⟨p, hp, rfl, rfl⟩ := site_mem h
  exact key_facts p hp hq
theorem rows_same {d : Str} (hn : normF d = plainF d) : rowsA d = rowsD d := by
  unfold rowsA rowsD
  rw [hn]
  cases hs : siteF (plainF d) with
  | none => rfl
  | some m =>
    obtain ⟨_, _, h3, h4⟩ := mode_site hs
    dsimp only
    by_cases hq : m.fdiv 4096 = 8 ∧ (m.fdiv 4).fmod 2 = 1
    · rw [if_pos hq, if_pos (h4.mpr hq), h3, (site_key hs hq).1]
    · rw [if_neg hq, if_neg (fun h => hq (h4.mp h)), h3]
theorem rows_facts {d : Str} (hp : Printable d) (hl : d.length ≤ 100) : ∀ p ∈ rowsD d, p.1.length ≤ 100 ∧ p.2.length ≤ 10000 ∧ Printable p.2 := by
  have hpl := plain_len d
  intro p hm
  unfold rowsD at hm
  rcases List.mem_append.mp hm with hm | hm
  · split at hm
    · rw [List.mem_singleton.mp hm]; exact ⟨Nat.le_of_ble_eq_true rfl, by dsimp only; omega, plain_print hp⟩
    · cases hm
  · cases hs : siteF (plainF d) with
    | none =>
      rw [hs] at hm
      have hm' : p ∈ [(Str.ofString "Status", Str.ofString "404")] := hm
      rw [List.mem_singleton.mp hm']
      exact ⟨Nat.le_of_ble_eq_true rfl, Nat.le_of_ble_eq_true rfl, by unfold Printable; decide +kernel⟩
    | some m =>
      rw [hs] at hm
      obtain ⟨h1, h2, h3, _⟩ := mode_site hs
      rcases List.mem_cons.mp (show p ∈ (Str.ofString "X-Mode", signsF m) :: _ from hm) with rfl | hm
      · rw [h3] at h1 h2
        exact ⟨Nat.le_of_ble_eq_true rfl, by dsimp only; omega, h2⟩
      · by_cases hq : m.fdiv 4096 = 8 ∧ (m.fdiv 4).fmod 2 = 1
        · rw [if_pos hq] at hm
          rw [List.mem_singleton.mp hm]
          exact ⟨Nat.le_of_ble_eq_true rfl, (site_key hs hq).2.1, (site_key hs hq).2.2⟩
        · rw [if_neg hq] at hm; cases hm
theorem good_of_head {d : Str} (hh : d.cps.toList.head? = some 47) (hl : d.length ≤ 100) (hp : Printable d) : Good d := by
  have hd : ∃ l, d = ⟨(47 :: l).toArray⟩ := by
    obtain ⟨a⟩ := d
    cases e : a.toList with
    | nil => rw [show (Str.mk a).cps.toList = a.toList from rfl, e] at hh; cases hh
    | cons b l =>
      rw [show (Str.mk a).cps.toList = a.toList from rfl, e] at hh
      have hb : b = 47 := Option.some.inj hh
      exact ⟨l, str_ext (by show a.toList = _; rw [e, hb])⟩
  have hn : normF d = plainF d := by obtain ⟨l, rfl⟩ := hd; exact norm_plain l
  have hpp := plain_print hp
  have hpl := plain_len d
  have h1 := last_facts hpp
  have h2 := base_facts hpp
  have h3 : (lastF (plainF d)).cps.size = (lastF (plainF d)).length := rfl
  exact ⟨hl, ⟨ascii_of h1.1, by omega⟩, by rw [hn]; exact ⟨by omega, hpp, by omega, h2.1⟩, rows_same hn, rows_facts hp hl⟩
theorem base_ok : ∀ d ∈ baseL, d.cps.toList.head? = some 47 ∧ d.length ≤ 100 ∧ (∀ c ∈ d.cps.toList, 32 ≤ c ∧ c ≤ 126) := by decide +kernel
theorem parts_ok : ∀ d ∈ partsL, ∀ c ∈ d.cps.toList, 32 ≤ c ∧ c ≤ 126 := by decide +kernel
theorem req_ok (n : Int) : (reqF n).cps.toList.head? = some 47 ∧ (reqF n).length ≤ 100 ∧ Printable (reqF n) := by
  unfold reqF
  refine ⟨?_, ?_, fun c hc => ?_⟩
  · rw [toList_app, slash_is]; rfl
  · have h1 := reqF_sum n
    have h2 := StrLaws.join_length_le (Str.ofString "/") ((textF n).cps.toList.map figF)
    rw [Str.length_append, txt_join]
    have h3 : (Str.ofString "/").length = 1 := rfl
    rw [h3, Nat.mul_one] at h2
    omega
  · rw [toList_app] at hc
    rcases List.mem_append.mp hc with hc | hc
    · exact slash_print c hc
    · rw [txt_join] at hc
      rcases join_mem hc with hc | ⟨y, hy, hc⟩
      · exact slash_print c hc
      · obtain ⟨b, _, rfl⟩ := List.mem_map.mp hy
        exact parts_ok _ (figF_mem b) c hc
theorem good_all (ns : List Int) : ∀ d ∈ baseL ++ ns.map reqF, Good d := by
  intro d hd
  rcases List.mem_append.mp hd with hd | hd
  · obtain ⟨h1, h2, h3⟩ := base_ok d hd
    exact good_of_head h1 h2 h3
  · obtain ⟨n, _, rfl⟩ := List.mem_map.mp hd
    obtain ⟨h1, h2, h3⟩ := req_ok n
    exact good_of_head h1 h2 h3

theorem at_S1 : True := by w_top off; trivial
theorem flat_same {ds : List Str} (h : ∀ d ∈ ds, Good d) : ds.flatMap rowsA = ds.flatMap rowsD := by
  induction ds with
  | nil => rfl
  | cons d r ih => rw [List.flatMap_cons, List.flatMap_cons, (h d (.head _)).2.2.2.1, ih fun x hx => h x (.tail _ hx)]
theorem base_len (ns : List Int) (h : ns.length ≤ 4) : (baseL ++ ns.map reqF).length ≤ 15 := by rw [List.length_append, List.length_map]; have : baseL.length = 11 := rfl; omega
theorem news_both {h₀ h : Heap} {L : Addr} {a b : List (Addr × Obj)} (x : News h₀ L h a) (y : News h₀ L h b) : News h₀ L h (a ++ b) := News.append x y
theorem good_of {vs : List Value} {ns : List Int} (_ : StrsAre vs (baseL ++ ns.map reqF)) : ∀ d ∈ baseL ++ ns.map reqF, Good d := good_all ns
theorem made_ledger {h₀ h : Heap} {L : Addr} {a b c : Addr × Obj} {rest core news : List (Addr × Obj)} (M : News h₀ L h (a :: b :: c :: rest)) (hc : ∀ p ∈ core, p ∈ rest ∧ isCellB p.2 = false) (N : News h₀ L h news) : News h₀ L h (a :: b :: c :: (news ++ core)) := by
  intro p hp
  rcases List.mem_cons.mp hp with rfl | hp
  · exact M _ (.head _)
  · rcases List.mem_cons.mp hp with rfl | hp
    · exact M _ (.tail _ (.head _))
    · rcases List.mem_cons.mp hp with rfl | hp
      · exact M _ (.tail _ (.tail _ (.head _)))
      · rcases List.mem_append.mp hp with hp | hp
        · exact N _ hp
        · exact M _ (.tail _ (.tail _ (.tail _ (hc p hp).1)))
theorem store_made {M : Model} {A : Around} {E : Value → Shared → Prop} {s : Shared} {h₀ : Heap} {L c1 c2 : Addr} {m : Str → Option Value} {env : Env} {x : Str} {v : Value} {v₀ : Option Value} {w1 w2 : Obj} {a b c d e : Addr × Obj} {core : List (Addr × Obj)} {Q : Unit → Shared → Prop}
    (F : Fr h₀ L s.heap m) (N : News h₀ L s.heap (a :: b :: c :: d :: e :: (c2, w2) :: (c1, w1) :: core)) (hk : env.scope.kind = .function) (hl : env.kindOf x = some .cell) (hc : env.cells.lookup x = some c1) (hd : w1.data = .cell v₀)
    (hn : isCellB a.2 = false ∧ isCellB b.2 = false ∧ isCellB c.2 = false ∧ isCellB d.2 = false) (h21 : @Ne Nat c2 c1) (hcore : ∀ p ∈ core, isCellB p.2 = false)
    (h : ∀ h' o', Fr h₀ L h' m → News h₀ L h' (a :: b :: c :: d :: (c2, w2) :: (c1, o') :: core) → o'.data = .cell (some v) → Q () { s with heap := h' }) : wpAny M A (storeName env x v) Q E s := by
  refine store_mine (a :: b :: c :: d :: (c2, w2) :: core) F N hk hl hc (.tail _ (.tail _ (.tail _ (.tail _ (.tail _ (.tail _ (.head _))))))) hd (fun p hp => ?_) (fun p hp => ?_) fun h' o' F' N' d' => h h' o' F' (fun p hp => ?_) d'
  · rcases List.mem_cons.mp hp with rfl | hp
    · exact .head _
    rcases List.mem_cons.mp hp with rfl | hp
    · exact .tail _ (.head _)
    rcases List.mem_cons.mp hp with rfl | hp
    · exact .tail _ (.tail _ (.head _))
    rcases List.mem_cons.mp hp with rfl | hp
    · exact .tail _ (.tail _ (.tail _ (.head _)))
    rcases List.mem_cons.mp hp with rfl | hp
    · exact .tail _ (.tail _ (.tail _ (.tail _ (.tail _ (.head _)))))
    · exact .tail _ (.tail _ (.tail _ (.tail _ (.tail _ (.tail _ (.tail _ hp))))))
  · rcases List.mem_cons.mp hp with rfl | hp
    · exact .inr hn.1
    rcases List.mem_cons.mp hp with rfl | hp
    · exact .inr hn.2.1
    rcases List.mem_cons.mp hp with rfl | hp
    · exact .inr hn.2.2.1
    rcases List.mem_cons.mp hp with rfl | hp
    · exact .inr hn.2.2.2
    rcases List.mem_cons.mp hp with rfl | hp
    · exact .inl h21
    · exact .inr (hcore p hp)
  · rcases List.mem_cons.mp hp with rfl | hp
    · exact N' _ (.tail _ (.head _))
    rcases List.mem_cons.mp hp with rfl | hp
    · exact N' _ (.tail _ (.tail _ (.head _)))
    rcases List.mem_cons.mp hp with rfl | hp
    · exact N' _ (.tail _ (.tail _ (.tail _ (.head _))))
    rcases List.mem_cons.mp hp with rfl | hp
    · exact N' _ (.tail _ (.tail _ (.tail _ (.tail _ (.head _)))))
    rcases List.mem_cons.mp hp with rfl | hp
    · exact N' _ (.tail _ (.tail _ (.tail _ (.tail _ (.tail _ (.head _))))))
    rcases List.mem_cons.mp hp with rfl | hp
    · exact N' _ (.head _)
    · exact N' _ (.tail _ (.tail _ (.tail _ (.tail _ (.tail _ (.tail _ hp))))))
theorem due_ledger {h₀ h : Heap} {L : Addr} {r a b c d e f : Addr × Obj} {rest2 core2 core : List (Addr × Obj)} (M : News h₀ L h (r :: rest2)) (hc : ∀ p ∈ core2, p ∈ rest2 ∧ isCellB p.2 = false) (N : News h₀ L h (a :: b :: c :: d :: e :: f :: core)) : News h₀ L h (r :: a :: b :: c :: d :: e :: f :: (core ++ core2)) := by
  intro p hp
  rcases List.mem_cons.mp hp with rfl | hp
  · exact M _ (.head _)
  rcases List.mem_append.mp (show p ∈ [a, b, c, d, e, f] ++ (core ++ core2) from hp) with hp | hp
  · exact N _ (List.mem_append_left core hp)
  rcases List.mem_append.mp hp with hp | hp
  · exact N _ (List.mem_append_right [a, b, c, d, e, f] hp)
  · exact M _ (.tail _ (hc p hp).1)
theorem swap2 {h₀ h : Heap} {L : Addr} {r a b c d e f : Addr × Obj} {core : List (Addr × Obj)} (N : News h₀ L h (r :: a :: b :: c :: d :: e :: f :: core)) : News h₀ L h (r :: a :: b :: c :: d :: f :: e :: core) := by
  intro p hp
  rcases List.mem_append.mp (show p ∈ [r, a, b, c, d] ++ (f :: e :: core) from hp) with hp | hp
  · exact N _ (List.mem_append_left (e :: f :: core) hp)
  rcases List.mem_cons.mp hp with rfl | hp
  · exact N _ (.tail _ (.tail _ (.tail _ (.tail _ (.tail _ (.tail _ (.head _)))))))
  rcases List.mem_cons.mp hp with rfl | hp
  · exact N _ (.tail _ (.tail _ (.tail _ (.tail _ (.tail _ (.head _))))))
  · exact N _ (.tail _ (.tail _ (.tail _ (.tail _ (.tail _ (.tail _ (.tail _ hp)))))))
theorem ne_int_same {prog : Program} {w : World} {A : Around} {E : Value → Shared → Prop} {s : Shared} {a b : Int} {t u : Tok} {Q : Value → Shared → Prop} (e : a = b) (h : Q (.bool false) s) : wpAny (model prog w) A (compareOp .NotEq (.int a t) (.int b u)) Q E s := by
  subst e
  refine PyProof.Rows.ne_int ?_
  have : (a != a) = false := by simp
  rw [this]; exact h
noncomputable def namesL : List Str := [Str.ofString "LOCATION", Str.ofString "status", Str.ofString "x-Mode", Str.ofString "content-disposition", Str.ofString "X-Mod", Str.ofString "None"]
theorem names_ok : ∀ nm ∈ namesL, nm.length ≤ 1000 ∧ (Txt.lower nm).length ≤ 1000 ∧ ∀ c ∈ (Txt.lower nm).cps.toList, 32 ≤ c ∧ c ≤ 126 := by decide +kernel
noncomputable def nameAt (i : Nat) : Str := (namesL[i]?).getD (Str.ofString "")
theorem nameAt_of {i : Nat} {nm : Str} (h : namesL[i]? = some nm) : nameAt i = nm := by unfold nameAt; rw [h]; rfl
theorem news_swap3 {h₀ h : Heap} {L : Addr} {a b c : Addr × Obj} {ls news : List (Addr × Obj)} (N : News h₀ L h (a :: b :: c :: (ls ++ news))) : News h₀ L h (a :: b :: c :: (news ++ ls)) := by
  intro p hp
  rcases List.mem_append.mp (show p ∈ [a, b, c] ++ (news ++ ls) from hp) with hp | hp
  · exact N _ (List.mem_append_left (ls ++ news) hp)
  · rcases List.mem_append.mp hp with hp | hp
    · exact N _ (List.mem_append_right [a, b, c] (List.mem_append_right _ hp))
    · exact N _ (List.mem_append_right [a, b, c] (List.mem_append_left _ hp))
theorem news_swap1 {h₀ h : Heap} {L : Addr} {a : Addr × Obj} {ls news : List (Addr × Obj)} (N : News h₀ L h (a :: (ls ++ news))) : News h₀ L h (a :: (news ++ ls)) := by
  intro p hp
  rcases List.mem_cons.mp hp with rfl | hp
  · exact N _ (.head _)
  · rcases List.mem_append.mp hp with hp | hp
    · exact N _ (.tail _ (List.mem_append_right _ hp))
    · exact N _ (.tail _ (List.mem_append_left _ hp))
theorem list_post {h₀ h' hs : Heap} {L : Addr} {m : Str → Option Value} {a b c : Addr × Obj} {ls news : List (Addr × Obj)} {xs : List Str} {s : Shared} {D : Addr} {ys : List Value} {tk' : Nat} (F : Fr h₀ L h' m) (N : News h₀ L h' (a :: b :: c :: (news ++ ls))) (N0 : News h₀ L hs (a :: b :: c :: (news ++ ls))) (hD : hs.get? D = none) (M : News h₀ L h' [(D, LCg.lst ys)]) (hy : StrsAre ys xs) :
    ListPost h₀ L m (a :: b :: c :: (ls ++ news)) xs s (.ref D) { s with heap := h', toks := tk' } := by
  refine ⟨h', tk', D, ys, rfl, rfl, F, fun p hp => ?_, fun p hp e => ?_, hy⟩
  · rcases List.mem_cons.mp hp with rfl | hp
    · exact M _ (.head _)
    · exact news_swap3 N p hp
  · have e' : p.1 = D := e
    have h1 := (news_swap3 N0 p hp).1
    rw [e', hD] at h1; cases h1
theorem news_swap4 {h₀ h : Heap} {L : Addr} {a b c d : Addr × Obj} {ls news : List (Addr × Obj)} (N : News h₀ L h (a :: b :: c :: d :: (ls ++ news))) : News h₀ L h (a :: b :: c :: d :: (news ++ ls)) := by
  intro p hp
  rcases List.mem_append.mp (show p ∈ [a, b, c, d] ++ (news ++ ls) from hp) with hp | hp
  · exact N _ (List.mem_append_left (ls ++ news) hp)
  · rcases List.mem_append.mp hp with hp | hp
    · exact N _ (List.mem_append_right [a, b, c, d] (List.mem_append_right _ hp))
    · exact N _ (List.mem_append_right [a, b, c, d] (List.mem_append_left _ hp))
theorem mem_swap4 {a b c d p : Addr × Obj} {ls news : List (Addr × Obj)} (hp : p ∈ a :: b :: c :: d :: (ls ++ news)) : p ∈ a :: b :: c :: d :: (news ++ ls) := by
  rcases List.mem_append.mp (show p ∈ [a, b, c, d] ++ (ls ++ news) from hp) with hp | hp
  · exact List.mem_append_left (news ++ ls) hp
  · rcases List.mem_append.mp hp with hp | hp
    · exact List.mem_append_right [a, b, c, d] (List.mem_append_right _ hp)
    · exact List.mem_append_right [a, b, c, d] (List.mem_append_left _ hp)
theorem list_post4 {h₀ h' : Heap} {L : Addr} {m : Str → Option Value} {a b c d : Addr × Obj} {ls news : List (Addr × Obj)} {xs : List Str} {s : Shared} {D : Addr} {ys : List Value} {tk' : Nat} (F : Fr h₀ L h' m) (N : News h₀ L h' ((D, LCg.lst ys) :: a :: b :: c :: d :: (news ++ ls))) (o : LCg.Off1 D (a :: b :: c :: d :: (news ++ ls))) (hy : StrsAre ys xs) :
    ListPost h₀ L m (a :: b :: c :: d :: (ls ++ news)) xs s (.ref D) { s with heap := h', toks := tk' } :=
  ⟨h', tk', D, ys, rfl, rfl, F, fun p hp => N p (by rcases List.mem_cons.mp hp with rfl | hp; exact .head _; exact .tail _ (mem_swap4 hp)), fun p hp => off1_all o p (mem_swap4 hp), hy⟩
theorem PureT.use {n : Nat} {w : World} {f : Addr} {vs : List Value} {R : Value → Prop} (C : PureT n w f vs R) {mean : ExcName → Option Value} {mg mb : Str → Option Value} {dp un : Nat} {gd : Option (List Code)} {cn : Str} {cs : Scope} {a : Addr} {ccd : Value} {cl : List (Str × Addr)} {A₀ : Around} {h₀ : Heap} {L : Addr} {m : Str → Option Value} {s : Shared} {Q E : Value → Shared → Prop} {news : List (Addr × Obj)}
    (B : Below A₀ h₀ [] h₀) (F : Fr h₀ L s.heap m) (X : (Mine.hd.heap_39 w.params).In h₀) (N : News h₀ L s.heap news) (T : Top Mine.view lse mean mg mb h₀) (hk : cs.kind = .function) (hd : dp + n < recursionLimit) (hu : un + 8 * n < cLine)
    (ret : ∀ (v : Value) (h' : Heap) (tk' : Nat), Fr h₀ L h' m → News h₀ L h' news → R v → Q v { s with heap := h', toks := tk' }) :
    wpAny (model PySem.Challenge.rw_ny0294_01.row.prog w) (ktrTop dp un gd cn cs L a ccd cl []) (call (.ref f) vs) Q E s :=
  C mean mg mb dp un gd cn cs a ccd cl A₀ h₀ L m s Q E news B F X T hk hd hu N ret
theorem ok_of {rows : List (Str × Str)} (h : ∀ p ∈ rows, p.1.length ≤ 100 ∧ p.2.length ≤ 10000 ∧ Printable p.2) (ns : List Nat) (f : Nat → Str) : ∀ xs ∈ ns.map (fun i => allF rows (f i)), ∀ x ∈ xs, PyData.strOk x = true := by
  intro xs hxs x hx
  obtain ⟨i, _, rfl⟩ := List.mem_map.mp hxs
  obtain ⟨p, hp, e⟩ := List.mem_filterMap.mp hx
  split at e
  · have e' : p.2 = x := Option.some.inj e
    rw [← e']
    unfold PyData.strOk
    rw [Array.all_eq_true']
    intro c hc
    have := (h p hp).2.2 c (by simpa using hc)
    simp; omega
  · cases e
theorem end_vals : [normF (Str.ofString "../a/./b/.."), normF (Str.ofString ""), normF (Str.ofString "a/.."), Str.ofString "", Str.ofString "a"] = [Str.ofString "../a", Str.ofString ".", Str.ofString ".", Str.ofString "", Str.ofString "a"] := by decide +kernel
theorem ends_ok : ∀ x ∈ [Str.ofString "../a", Str.ofString ".", Str.ofString ".", Str.ofString "", Str.ofString "a"], PyData.strOk x = true := by decide +kernel
theorem eq_texts {prog : Program} {w : World} {A : Around} {E : Value → Shared → Prop} {s : Shared} {a b : Addr} {vs ws : List Value} {xs ys : List Str} {Q : Value → Shared → Prop} (la : s.heap.IsList a vs.toArray) (lb : s.heap.IsList b ws.toArray) (hi : StrsAre vs xs) (hj : StrsAre ws ys) (e : xs = ys)
    (hok : ∀ x ∈ ys, PyData.strOk x = true) (hu : A.units + 64 < cLine) (h : Q (.bool true) s) : wpAny (model prog w) A (compareOp .Eq (.ref a) (.ref b)) Q E s := by
  subst e
  obtain ⟨oa, ha, hac, na, had⟩ := la
  obtain ⟨ob, hb, hbc, nb, hbd⟩ := lb
  obtain ⟨h1, h2⟩ := can_strs xs hok
  have hc : (PyData.list (xs.map PyData.str)).canLay0 = true := by simp only [PyData.canLay0]; exact h1
  have hs : SeqAt.shaped (PyData.list (xs.map PyData.str)) = true := by
    unfold SeqAt.shaped; rw [hc]; simp only [PyData.depth, h2]; rfl
  refine eq_dataH (.list ha hac had (reads_strs hi)) (.list hb hbc hbd (reads_strs hj)) hs hs hu ?_
  rw [SeqAt.eqv_refl _ hc]; exact h
theorem fit1 {a : Str} (h : a.length ≤ 100) : a.length + (Str.ofString ": ").length ≤ sizeLine := by
  have e : (Str.ofString ": ").length = 2 := rfl
  rw [sizeLine_eq, e]; omega
theorem fit2 {a b : Str} (h : a.length ≤ 100) (h' : b.length ≤ 10000) : (a ++ Str.ofString ": ").length + b.length ≤ sizeLine := by
  have e : (Str.ofString ": ").length = 2 := rfl
  rw [sizeLine_eq, Str.length_append, e]; omega
theorem fit3 {a b : Str} (h : a.length ≤ 100) (h' : b.length ≤ 10000) : (a ++ Str.ofString ": " ++ b).length + (Str.ofString "\x0d\n").length ≤ sizeLine := by
  have e : (Str.ofString ": ").length = 2 := rfl
  have e2 : (Str.ofString "\x0d\n").length = 2 := rfl
  rw [sizeLine_eq, Str.length_append, Str.length_append, e, e2]; omega
theorem post_true (xs : List Int) : PySem.Challenge.rw_ny0294_01.row.claim.post [ofPy (PyData.list (List.map PyData.int xs))] (WData.bool true) [ofPy (PyData.list (List.map PyData.int xs))] = true := by
  wrow_post
section
local macro_rules | `(tactic| k_qdec) => `(tactic| decide +kernel)
local macro_rules | `(tactic| walk_at "storeName") => `(tactic| (k_here; first | (with_reducible show wpAny _ _ (storeName _ (Str.ofString "made") _) _ _ _) | (with_reducible show wpAny _ _ (storeName _ (Str.ofString "due") _) _ _ _); refine Hold.out ?_))
local macro_rules | `(tactic| walk_at "call ref") => `(tactic| (k_here; (with_reducible show wpAny _ _ (call (Value.ref 353) [Value.ref _]) _ _ _); refine Hold.out ?_))
local macro_rules | `(tactic| walk_at "call ref") => `(tactic| (k_here; (with_reducible show wpAny _ _ (call (Value.ref 379) [Value.ref _]) _ _ _); refine Hold.out ?_))
local macro_rules | `(tactic| walk_at "call ref") => `(tactic| (k_here; (with_reducible show wpAny _ _ (call (Value.ref 158) [Value.ref _]) _ _ _); refine Hold.out ?_))
local macro_rules | `(tactic| walk_at "call ref") => `(tactic| (k_here; (with_reducible show wpAny _ _ (call (Value.ref 90) [Value.ref _]) _ _ _); refine Hold.out ?_))
local macro_rules | `(tactic| walk_at "eval ListComp") => `(tactic| (k_here; refine Hold.out ?_))
local macro_rules | `(tactic| walk_at "ite") => `(tactic| (with_reducible refine ite_neg Bool.false_ne_true ?_))
local macro_rules | `(tactic| walk_at "compareOp NotEq int int") => `(tactic| (k_here; refine Hold.out ?_))
local macro_rules | `(tactic| walk_at "call ref") => `(tactic| (k_here; (with_reducible show wpAny _ _ (call (Value.ref 121) [Value.ref _, Value.str _ _]) _ _ _); refine Hold.out ?_))
local macro_rules | `(tactic| walk_at "compareOp Eq ref ref") => `(tactic| (k_here; refine Hold.out ?_))
local macro_rules | `(tactic| walk_at "compareOp NotEq str str") => `(tactic| (k_here; refine Hold.out ?_))
theorem holds : PySem.Challenge.rw_ny0294_01.Holds := hd (by
  k_go0
  (all_goals try k_fold)
  repeat' (first | (k_unfold; (try dsimp only)) | (k_end; wrow_close) | ((fail_if_success (with_reducible show wpAny _ _ _ _ _ _)); dsimp only) | with_reducible (k_here; (with_reducible show wpAny _ _ (call (Value.ref 280) [Value.str _ _]) _ _ _); k_dflt (refine' Pure.use (basename_c _ _ _ ?kx) ?k1 ?k2 ?k3 ?k4 ?k5 ?kK ?kd ?ku trivial ?_; (case kx => walk_at "my len"); (((case k1 => k_asm); (case k2 => k_asm); (case k3 => k_asm); (case k4 => k_asm); (case k5 => k_asm); (case kK => first | exact rfl | assumption); (case kd => ktr_room); (case ku => ktr_units)))); intro v99z h99z tk99z F99z N99z e99z; (obtain ⟨t99z, e99z⟩ := e99z); (cases e99z); (try dsimp only); (try k_fold)) | with_reducible (k_here; (with_reducible show wpAny _ _ (call (Value.ref 287) [Value.str _ _]) _ _ _); k_dflt (refine' Pure.use (normpath_c _ _ _ ?kx) ?k1 ?k2 ?k3 ?k4 ?k5 ?kK ?kd ?ku trivial ?_; (case kx => walk_at "my len"); (((case k1 => k_asm); (case k2 => k_asm); (case k3 => k_asm); (case k4 => k_asm); (case k5 => k_asm); (case kK => first | exact rfl | assumption); (case kd => ktr_room); (case ku => ktr_units)))); intro v99z h99z tk99z F99z N99z e99z; (obtain ⟨t99z, e99z⟩ := e99z); (cases e99z); (try dsimp only); (try k_fold)) | with_reducible (k_here; (with_reducible show wpAny _ _ (call (Value.ref 360) [Value.str (Str.ofString "X") _, Value.str (Str.ofString "a b") _]) _ _ _); k_dflt (refine' PureT.use (refused3 _ _ _) ?k1 ?k2 ?k3 ?k4 ?k5 ?kK ?kd ?ku ?_; (((case k1 => k_asm); (case k2 => k_asm); (case k3 => k_asm); (case k4 => k_asm); (case k5 => k_asm); (case kK => first | exact rfl | assumption); (case kd => ktr_room); (case ku => ktr_units)))); intro v99z h99z tk99z F99z N99z e99z; (cases e99z); (try dsimp only); (try k_fold)) | with_reducible (k_here; (with_reducible show wpAny _ _ (call (Value.ref 360) [Value.str (Str.ofString "X\n") _, Value.str (Str.ofString "a") _]) _ _ _); k_dflt (refine' PureT.use (refused2 _ _ _) ?k1 ?k2 ?k3 ?k4 ?k5 ?kK ?kd ?ku ?_; (((case k1 => k_asm); (case k2 => k_asm); (case k3 => k_asm); (case k4 => k_asm); (case k5 => k_asm); (case kK => first | exact rfl | assumption); (case kd => ktr_room); (case ku => ktr_units)))); intro v99z h99z tk99z F99z N99z e99z; (cases e99z); (try dsimp only); (try k_fold)) | with_reducible (k_here; (with_reducible show wpAny _ _ (call (Value.ref 360) [Value.str (Str.ofString "X") _, Value.str (Str.ofString "a\nb") _]) _ _ _); k_dflt (refine' PureT.use (refused1 _ _ _) ?k1 ?k2 ?k3 ?k4 ?k5 ?kK ?kd ?ku ?_; (((case k1 => k_asm); (case k2 => k_asm); (case k3 => k_asm); (case k4 => k_asm); (case k5 => k_asm); (case kK => first | exact rfl | assumption); (case kd => ktr_room); (case ku => ktr_units)))); intro v99z h99z tk99z F99z N99z e99z; (cases e99z); (try dsimp only); (try k_fold)) | with_reducible (k_here; (with_reducible show wpAny _ _ (call (Value.builtin "len") [Value.ref _]) _ _ _); (rename (List.length _ = List.length _) => hLn99z); k_dflt (refine len_any (by k_asm) (by k_mem) (by omega) ?_); intro t99z k99z) | with_reducible (k_here; (with_reducible show wpAny _ _ (binaryOp Operator.Add (Value.str _ _) (Value.str _ _)) _ _ _); k_dflt (refine addS (by first | exact fit1 (by with_reducible assumption) | exact fit2 (by with_reducible assumption) (by with_reducible assumption) | exact fit3 (by with_reducible assumption) (by with_reducible assumption) | (rw [sizeLine_eq]; (try simp only [Str.length_append]); omega)) ?_); intro t99z k99z hl99z; clear hl99z) | with_reducible (k_here; (with_reducible show wpAny _ _ (call (Value.ref 346) [Value.ref _]) _ _ _); (rename IntsAre _ (List.take 4 _) => hI99z); k_dflt (refine' PureN.use (requests_c _ _ _ 0 _ hI99z ?kl) ?k1 ?k2 ?k3 ?k4 ?k5 ?kK ?kd ?ku ?hs ?_; (case kl => (rw [List.length_take]; omega)); (((case k1 => k_asm); (case k2 => k_asm); (case k3 => k_asm); (case k4 => k_asm); (case k5 => k_asm); (case kK => first | exact rfl | assumption); (case kd => ktr_room); (case ku => ktr_units))); (case hs => exact fun p hp => by rw [List.mem_singleton.mp hp]; k_mem)); intro v99z h99z tk99z F99z N99z e99z; (obtain ⟨D99z, vs99z, n99z, e99z, M99z, S99z⟩ := e99z); (cases e99z); (replace N99z := news_both M99z N99z); (clear M99z); (try simp only [List.cons_append, List.nil_append] at N99z); (try dsimp only); (try k_fold)) | with_reducible (k_here; (with_reducible show wpAny _ _ (call (Value.ref 182) [Value.ref _]) _ _ _); k_dflt (refine' call_cls ?k1 ?k2 ?k3 ?k4 ?k5 ?k6 ?_; (case k1 => k_asm); (case k2 => k_asm); (case k3 => k_asm); (case k4 => k_is); (case k5 => k_is); (case k6 => k_is); k_whole; intro x9z d9z h9z F9z N9z l19z l29z; (try k_lt l19z); (try k_lt2 l29z); (try k_sweep); ((refine' code_def ?k1 ?k2 ?k3 ?k4 ?k5 ?kA ?kF ?kK ?k6 ?k7 ?k8 ?k9 ?kB ?_ ?c2 ?c3 ?c4 ?c5; (((case kA => exact rfl); (case kF => exact rfl); (case kK => first | exact rfl | assumption); (case k1 => k_asm); (case k2 => k_asm); (case k3 => k_asm); (try (case k4 => k_asm)); (case k5 => k_asm); (case k6 => k_is); (case k7 => k_is); (case k8 => ktr_room); (try (case k9 => first | exact BindsTo.of_eq rfl | (refine' kp_binds ?kx ?ke; (case kx => k_in); (case ke => exact fun _ => rfl)))))); (((try (case c5 => decide)); (try (case kB => exact locs rfl)); (case c2 => exact rfl); (case c3 => exact rfl); (case c4 => exact rfl); k_whole)); intro g9z L9z h9z FG9z F9z N9z B9z X9z T9z; (try dsimp only); (try k_lift B9z); (try k_fold))))) | with_reducible (k_here; (with_reducible show wpAny _ _ (call (Value.builtin "dict.get") [Value.ref _, Value.str _ _]) _ _ _); k_dflt (refine site_get (by assumption) ?_ ?_); first | (intro m99z t99z hm99z hm09z hm19z) | (intro hm99z)) | with_reducible (k_here; (with_reducible show wpAny _ _ (getMethod (Value.ref _) (Str.ofString "get") _) _ _ _); k_dflt (refine getMethod_strTab_get (by assumption) ?_)) | with_reducible (k_here; (with_reducible show wpAny _ _ (call (Value.ref 341) _) _ _ _); k_dflt (refine' Pure.use (site_c _) ?k1 ?k2 ?k3 ?k4 ?k5 ?kK ?kd ?ku trivial ?_; (((case k1 => k_asm); (case k2 => k_asm); (case k3 => k_asm); (case k4 => k_asm); (case k5 => k_asm); (case kK => first | exact rfl | assumption); (case kd => ktr_room); (case ku => ktr_units)))); intro v99z h99z tk99z F99z N99z e99z; (obtain ⟨D99z, e99z, n99z, T99z⟩ := e99z); (cases e99z); (clear n99z); (try dsimp only); (try k_fold)) | with_reducible (k_here; (with_reducible show wpAny _ _ (call (Value.ref 294) [Value.int _ _]) _ _ _); k_dflt (refine' Pure.use (ifmt_c _ _ _) ?k1 ?k2 ?k3 ?k4 ?k5 ?kK ?kd ?ku trivial ?_; (((case k1 => k_asm); (case k2 => k_asm); (case k3 => k_asm); (case k4 => k_asm); (case k5 => k_asm); (case kK => first | exact rfl | assumption); (case kd => ktr_room); (case ku => ktr_units)))); intro v99z h99z tk99z F99z N99z e99z; (obtain ⟨t99z, e99z⟩ := e99z); (cases e99z); (try dsimp only); (try k_fold)) | with_reducible (k_here; (with_reducible show wpAny _ _ (call (Value.ref 83) [Value.ref _, Value.str _ _] _) _ _ _); k_dflt (refine' PureK.use (conv_c _ _ _ _ _ ?kx ?kp) ?k1 ?k2 ?k3 ?k4 ?k5 ?kK ?kd ?ku trivial ?_; (case kx => walk_at "my len"); (case kp => walk_at "my print"); (((case k1 => k_asm); (case k2 => k_asm); (case k3 => k_asm); (case k4 => k_asm); (case k5 => k_asm); (case kK => first | exact rfl | assumption); (case kd => ktr_room); (case ku => ktr_units)))); intro v99z h99z tk99z F99z N99z e99z; (cases e99z); (try dsimp only); (try k_fold)) | with_reducible (k_here; (with_reducible show wpAny _ _ (call (Value.builtin "re.Pattern.search") [Value.ref 53, Value.str _ _]) _ _ _); k_dflt (refine' re_search (code := valueCode) ?k1 ?k2 ?k3 ?k4 ?k5 ?k6 ?k7 ?_; (case k1 => k_asm); (case k2 => k_asm); (case k3 => k_is); (case k4 => k_is); (case k5 => decide +kernel); (case k6 => assumption); (case k7 => exact value_fails (by assumption)))) | with_reducible (k_here; (with_reducible show wpAny _ _ (call (Value.builtin "re.Pattern.search") [Value.ref 48, Value.str _ _]) _ _ _); k_dflt (refine' re_search (code := nameCode) ?k1 ?k2 ?k3 ?k4 ?k5 ?k6 ?k7 ?_; (case k1 => k_asm); (case k2 => k_asm); (case k3 => k_is); (case k4 => k_is); (case k5 => decide +kernel); (case k6 => assumption); (case k7 => exact name_fails (by assumption)))) | with_reducible (k_here; (with_reducible show wpAny _ _ (getMethod (Value.ref _) (Str.ofString "search") _) _ _ _); k_dflt (refine' re_method ?k1 ?k2 ?k3 ?_; (case k1 => k_asm); (case k2 => k_asm); (case k3 => k_is))) | with_reducible (k_here; (with_reducible show wpAny _ _ (call (Value.builtin "str.join") [Value.str _ _, Value.ref _]) _ _ _); (with_reducible rename StrsAre _ _ => hSt99z); k_dflt (refine' join_listW (ys := ?ys) ?k1 ?k2 ?k3 ?k4 ?_; (case k1 => exact News.isList (by k_asm) (by k_mem)); (case k2 => simpa using hSt99z); (case k3 => decide); (case k4 => first | omega | (simp only [] at *; omega))); intro t99z k99z) | with_reducible (k_here; (with_reducible show wpAny _ _ (truthy (Value.ref _)) _ _ _); (with_reducible rename StrsAre _ _ => hSt99z); k_dflt (refine' txt_truthy ?N ?m hSt99z ?z ?_; (case N => k_asm); (case m => k_mem); (case z => first | omega | (simp only [List.length_append, List.length_cons, List.length_nil]; omega)))) | with_reducible (k_here; (with_reducible show wpAny _ _ (subscriptTail _ _ (Value.ref _) (Value.int (-1) _)) _ _ _); (with_reducible rename StrsAre _ _ => hSt99z); k_dflt (refine' txt_last ?N ?m hSt99z ?l ?_ ?z; (case N => k_asm); (case m => k_mem); (case l => with_reducible assumption); (case z => with_unfolding_all rfl)); intro y99z t99z e99z) | with_reducible (k_here; (with_reducible show wpAny _ _ (call (Value.builtin _) [Value.ref _]) _ _ _); (with_reducible rename StrsAre _ _ => hSt99z); k_dflt (refine' txt_pop ?F ?N ?U hSt99z ?l ?z ?_; (case F => k_asm); (case N => k_asm); (case U => k_upd); (case l => assumption); (case z => omega)); intro h9z y9z t9z F9z N9z hI9z) | with_reducible (k_here; (with_reducible show wpAny _ _ (call (Value.builtin "str.split") _) _ _ _); refine KSpl.split1 (by k_asm) (by k_asm) (by decide) ?_ (by (first | exact split_fits (by assumption) | exact split_fits (Nat.le_trans (restOf_le _) (by assumption)))); intro D9z l9z h9z k9z e9z a9z F9z N9z l19z; (try k_lt l19z)) | with_reducible (k_here; (with_reducible show wpAny _ _ (call (Value.ref 273) [Value.str _ _]) _ _ _); k_dflt (refine' Pure.use' (splitroot_c _ _ _ ?kx) ?k1 ?k2 ?k3 ?k4 ?k5 ?kK ?kd ?ku trivial ?_; (case kx => walk_at "my len"); (((case k1 => k_asm); (case k2 => k_asm); (case k3 => k_asm); (case k4 => k_asm); (case k5 => k_asm); (case kK => first | exact rfl | assumption); (case kd => ktr_room); (case ku => ktr_units)))); intro v99z h99z tk99z F99z N99z f99z e99z; (obtain ⟨D99z, t99z, u99z, w99z, e99z, g99z, n99z⟩ := e99z); (cases e99z); (replace N99z := news_fresh f99z N99z g99z n99z); (clear f99z g99z n99z); (try dsimp only); (try k_fold)) | with_reducible (k_here; (with_reducible show wpAny _ _ (call (Value.ref 193) [Value.str _ _]) _ _ _); k_dflt (refine' Pure.use (get_sep_c _ _ _) ?k1 ?k2 ?k3 ?k4 ?k5 ?kK ?kd ?ku trivial ?_; (((case k1 => k_asm); (case k2 => k_asm); (case k3 => k_asm); (case k4 => k_asm); (case k5 => k_asm); (case kK => first | exact rfl | assumption); (case kd => ktr_room); (case ku => ktr_units)))); intro v99z h99z tk99z F99z N99z e99z; (obtain ⟨t99z, e99z⟩ := e99z); (cases e99z); (try dsimp only); (try k_fold)) | with_reducible (k_here; (with_reducible show wpAny _ _ (call (Value.ref 266) [Value.str _ _]) _ _ _); k_dflt (refine' Pure.use (fspath_c _ _ _) ?k1 ?k2 ?k3 ?k4 ?k5 ?kK ?kd ?ku trivial ?_; (((case k1 => k_asm); (case k2 => k_asm); (case k3 => k_asm); (case k4 => k_asm); (case k5 => k_asm); (case kK => first | exact rfl | assumption); (case kd => ktr_room); (case ku => ktr_units)))); intro v99z h99z tk99z F99z N99z e99z; (cases e99z); (try dsimp only); (try k_fold)) | walk1 | (dsimp only; walk1) | (leave1; walk_say "STEP leave1"; try dsimp only))
  unfold Hold
  rename News _ _ _ _ => nN
  rename StrsAre _ _ => sS
  have hG := good_of sS
  have hlen := base_len _ (by rename IntsAre _ (List.take 4 _) => hI9; rename (List.take 4 _).length = _ => hC9; exact Nat.le_trans (Nat.le_of_eq hC9) (Nat.min_le_left _ _))
  generalize hds : baseL ++ List.map reqF (List.take 4 _) = ds at *
  k_dflt (refine' PureN.use (answered_c _ _ _ _ ds sS hlen (fun d hd => ⟨(hG d hd).1, (hG d hd).2.2.1⟩)) ?k1 ?k2 ?k3 ?k4 ?k5 ?kK ?kd ?ku ?hs ?_; (((case k1 => k_asm); (case k2 => k_asm); (case k3 => k_asm); (case k4 => k_asm); (case k5 => k_asm); (case kK => first | exact rfl | assumption); (case kd => ktr_room); (case ku => ktr_units))); (case hs => exact fun p hp => by rw [List.mem_singleton.mp hp]; exact .head _))
  intro v9 h9 tk9 F9 N9 e9
  obtain ⟨self, dx, lst, us, n9, rest, th, e9, M9, hI9⟩ := e9
  cases e9
  rw [flat_same hG] at hI9
  obtain ⟨core, hcore, hI9⟩ := rows_core hI9
  replace N9 := made_ledger M9 hcore N9
  clear M9
  simp only [List.cons_append, List.nil_append] at N9
  (try dsimp only)
  (try k_fold)
  refine store_made F9 N9 rfl rfl rfl (by assumption) ⟨rfl, rfl, rfl, rfl⟩ (by omega) (fun p hp => (hcore p hp).2) fun hA oA FA NA dA => ?_
  clear N9 F9
  repeat' (first | (k_unfold; (try dsimp only)) | (k_end; wrow_close) | ((fail_if_success (with_reducible show wpAny _ _ _ _ _ _)); dsimp only) | with_reducible (k_here; (with_reducible show wpAny _ _ (call (Value.ref 280) [Value.str _ _]) _ _ _); k_dflt (refine' Pure.use (basename_c _ _ _ ?kx) ?k1 ?k2 ?k3 ?k4 ?k5 ?kK ?kd ?ku trivial ?_; (case kx => walk_at "my len"); (((case k1 => k_asm); (case k2 => k_asm); (case k3 => k_asm); (case k4 => k_asm); (case k5 => k_asm); (case kK => first | exact rfl | assumption); (case kd => ktr_room); (case ku => ktr_units)))); intro v99z h99z tk99z F99z N99z e99z; (obtain ⟨t99z, e99z⟩ := e99z); (cases e99z); (try dsimp only); (try k_fold)) | with_reducible (k_here; (with_reducible show wpAny _ _ (call (Value.ref 287) [Value.str _ _]) _ _ _); k_dflt (refine' Pure.use (normpath_c _ _ _ ?kx) ?k1 ?k2 ?k3 ?k4 ?k5 ?kK ?kd ?ku trivial ?_; (case kx => walk_at "my len"); (((case k1 => k_asm); (case k2 => k_asm); (case k3 => k_asm); (case k4 => k_asm); (case k5 => k_asm); (case kK => first | exact rfl | assumption); (case kd => ktr_room); (case ku => ktr_units)))); intro v99z h99z tk99z F99z N99z e99z; (obtain ⟨t99z, e99z⟩ := e99z); (cases e99z); (try dsimp only); (try k_fold)) | with_reducible (k_here; (with_reducible show wpAny _ _ (call (Value.ref 360) [Value.str (Str.ofString "X") _, Value.str (Str.ofString "a b") _]) _ _ _); k_dflt (refine' PureT.use (refused3 _ _ _) ?k1 ?k2 ?k3 ?k4 ?k5 ?kK ?kd ?ku ?_; (((case k1 => k_asm); (case k2 => k_asm); (case k3 => k_asm); (case k4 => k_asm); (case k5 => k_asm); (case kK => first | exact rfl | assumption); (case kd => ktr_room); (case ku => ktr_units)))); intro v99z h99z tk99z F99z N99z e99z; (cases e99z); (try dsimp only); (try k_fold)) | with_reducible (k_here; (with_reducible show wpAny _ _ (call (Value.ref 360) [Value.str (Str.ofString "X\n") _, Value.str (Str.ofString "a") _]) _ _ _); k_dflt (refine' PureT.use (refused2 _ _ _) ?k1 ?k2 ?k3 ?k4 ?k5 ?kK ?kd ?ku ?_; (((case k1 => k_asm); (case k2 => k_asm); (case k3 => k_asm); (case k4 => k_asm); (case k5 => k_asm); (case kK => first | exact rfl | assumption); (case kd => ktr_room); (case ku => ktr_units)))); intro v99z h99z tk99z F99z N99z e99z; (cases e99z); (try dsimp only); (try k_fold)) | with_reducible (k_here; (with_reducible show wpAny _ _ (call (Value.ref 360) [Value.str (Str.ofString "X") _, Value.str (Str.ofString "a\nb") _]) _ _ _); k_dflt (refine' PureT.use (refused1 _ _ _) ?k1 ?k2 ?k3 ?k4 ?k5 ?kK ?kd ?ku ?_; (((case k1 => k_asm); (case k2 => k_asm); (case k3 => k_asm); (case k4 => k_asm); (case k5 => k_asm); (case kK => first | exact rfl | assumption); (case kd => ktr_room); (case ku => ktr_units)))); intro v99z h99z tk99z F99z N99z e99z; (cases e99z); (try dsimp only); (try k_fold)) | with_reducible (k_here; (with_reducible show wpAny _ _ (call (Value.builtin "len") [Value.ref _]) _ _ _); (rename (List.length _ = List.length _) => hLn99z); k_dflt (refine len_any (by k_asm) (by k_mem) (by omega) ?_); intro t99z k99z) | with_reducible (k_here; (with_reducible show wpAny _ _ (binaryOp Operator.Add (Value.str _ _) (Value.str _ _)) _ _ _); k_dflt (refine addS (by first | exact fit1 (by with_reducible assumption) | exact fit2 (by with_reducible assumption) (by with_reducible assumption) | exact fit3 (by with_reducible assumption) (by with_reducible assumption) | (rw [sizeLine_eq]; (try simp only [Str.length_append]); omega)) ?_); intro t99z k99z hl99z; clear hl99z) | with_reducible (k_here; (with_reducible show wpAny _ _ (call (Value.ref 346) [Value.ref _]) _ _ _); (rename IntsAre _ (List.take 4 _) => hI99z); k_dflt (refine' PureN.use (requests_c _ _ _ 0 _ hI99z ?kl) ?k1 ?k2 ?k3 ?k4 ?k5 ?kK ?kd ?ku ?hs ?_; (case kl => (rw [List.length_take]; omega)); (((case k1 => k_asm); (case k2 => k_asm); (case k3 => k_asm); (case k4 => k_asm); (case k5 => k_asm); (case kK => first | exact rfl | assumption); (case kd => ktr_room); (case ku => ktr_units))); (case hs => exact fun p hp => by rw [List.mem_singleton.mp hp]; k_mem)); intro v99z h99z tk99z F99z N99z e99z; (obtain ⟨D99z, vs99z, n99z, e99z, M99z, S99z⟩ := e99z); (cases e99z); (replace N99z := news_both M99z N99z); (clear M99z); (try simp only [List.cons_append, List.nil_append] at N99z); (try dsimp only); (try k_fold)) | with_reducible (k_here; (with_reducible show wpAny _ _ (call (Value.ref 182) [Value.ref _]) _ _ _); k_dflt (refine' call_cls ?k1 ?k2 ?k3 ?k4 ?k5 ?k6 ?_; (case k1 => k_asm); (case k2 => k_asm); (case k3 => k_asm); (case k4 => k_is); (case k5 => k_is); (case k6 => k_is); k_whole; intro x9z d9z h9z F9z N9z l19z l29z; (try k_lt l19z); (try k_lt2 l29z); (try k_sweep); ((refine' code_def ?k1 ?k2 ?k3 ?k4 ?k5 ?kA ?kF ?kK ?k6 ?k7 ?k8 ?k9 ?kB ?_ ?c2 ?c3 ?c4 ?c5; (((case kA => exact rfl); (case kF => exact rfl); (case kK => first | exact rfl | assumption); (case k1 => k_asm); (case k2 => k_asm); (case k3 => k_asm); (try (case k4 => k_asm)); (case k5 => k_asm); (case k6 => k_is); (case k7 => k_is); (case k8 => ktr_room); (try (case k9 => first | exact BindsTo.of_eq rfl | (refine' kp_binds ?kx ?ke; (case kx => k_in); (case ke => exact fun _ => rfl)))))); (((try (case c5 => decide)); (try (case kB => exact locs rfl)); (case c2 => exact rfl); (case c3 => exact rfl); (case c4 => exact rfl); k_whole)); intro g9z L9z h9z FG9z F9z N9z B9z X9z T9z; (try dsimp only); (try k_lift B9z); (try k_fold))))) | with_reducible (k_here; (with_reducible show wpAny _ _ (call (Value.builtin "dict.get") [Value.ref _, Value.str _ _]) _ _ _); k_dflt (refine site_get (by assumption) ?_ ?_); first | (intro m99z t99z hm99z hm09z hm19z) | (intro hm99z)) | with_reducible (k_here; (with_reducible show wpAny _ _ (getMethod (Value.ref _) (Str.ofString "get") _) _ _ _); k_dflt (refine getMethod_strTab_get (by assumption) ?_)) | with_reducible (k_here; (with_reducible show wpAny _ _ (call (Value.ref 341) _) _ _ _); k_dflt (refine' Pure.use (site_c _) ?k1 ?k2 ?k3 ?k4 ?k5 ?kK ?kd ?ku trivial ?_; (((case k1 => k_asm); (case k2 => k_asm); (case k3 => k_asm); (case k4 => k_asm); (case k5 => k_asm); (case kK => first | exact rfl | assumption); (case kd => ktr_room); (case ku => ktr_units)))); intro v99z h99z tk99z F99z N99z e99z; (obtain ⟨D99z, e99z, n99z, T99z⟩ := e99z); (cases e99z); (clear n99z); (try dsimp only); (try k_fold)) | with_reducible (k_here; (with_reducible show wpAny _ _ (call (Value.ref 294) [Value.int _ _]) _ _ _); k_dflt (refine' Pure.use (ifmt_c _ _ _) ?k1 ?k2 ?k3 ?k4 ?k5 ?kK ?kd ?ku trivial ?_; (((case k1 => k_asm); (case k2 => k_asm); (case k3 => k_asm); (case k4 => k_asm); (case k5 => k_asm); (case kK => first | exact rfl | assumption); (case kd => ktr_room); (case ku => ktr_units)))); intro v99z h99z tk99z F99z N99z e99z; (obtain ⟨t99z, e99z⟩ := e99z); (cases e99z); (try dsimp only); (try k_fold)) | with_reducible (k_here; (with_reducible show wpAny _ _ (call (Value.ref 83) [Value.ref _, Value.str _ _] _) _ _ _); k_dflt (refine' PureK.use (conv_c _ _ _ _ _ ?kx ?kp) ?k1 ?k2 ?k3 ?k4 ?k5 ?kK ?kd ?ku trivial ?_; (case kx => walk_at "my len"); (case kp => walk_at "my print"); (((case k1 => k_asm); (case k2 => k_asm); (case k3 => k_asm); (case k4 => k_asm); (case k5 => k_asm); (case kK => first | exact rfl | assumption); (case kd => ktr_room); (case ku => ktr_units)))); intro v99z h99z tk99z F99z N99z e99z; (cases e99z); (try dsimp only); (try k_fold)) | with_reducible (k_here; (with_reducible show wpAny _ _ (call (Value.builtin "re.Pattern.search") [Value.ref 53, Value.str _ _]) _ _ _); k_dflt (refine' re_search (code := valueCode) ?k1 ?k2 ?k3 ?k4 ?k5 ?k6 ?k7 ?_; (case k1 => k_asm); (case k2 => k_asm); (case k3 => k_is); (case k4 => k_is); (case k5 => decide +kernel); (case k6 => assumption); (case k7 => exact value_fails (by assumption)))) | with_reducible (k_here; (with_reducible show wpAny _ _ (call (Value.builtin "re.Pattern.search") [Value.ref 48, Value.str _ _]) _ _ _); k_dflt (refine' re_search (code := nameCode) ?k1 ?k2 ?k3 ?k4 ?k5 ?k6 ?k7 ?_; (case k1 => k_asm); (case k2 => k_asm); (case k3 => k_is); (case k4 => k_is); (case k5 => decide +kernel); (case k6 => assumption); (case k7 => exact name_fails (by assumption)))) | with_reducible (k_here; (with_reducible show wpAny _ _ (getMethod (Value.ref _) (Str.ofString "search") _) _ _ _); k_dflt (refine' re_method ?k1 ?k2 ?k3 ?_; (case k1 => k_asm); (case k2 => k_asm); (case k3 => k_is))) | with_reducible (k_here; (with_reducible show wpAny _ _ (call (Value.builtin "str.join") [Value.str _ _, Value.ref _]) _ _ _); (with_reducible rename StrsAre _ _ => hSt99z); k_dflt (refine' join_listW (ys := ?ys) ?k1 ?k2 ?k3 ?k4 ?_; (case k1 => exact News.isList (by k_asm) (by k_mem)); (case k2 => simpa using hSt99z); (case k3 => decide); (case k4 => first | omega | (simp only [] at *; omega))); intro t99z k99z) | with_reducible (k_here; (with_reducible show wpAny _ _ (truthy (Value.ref _)) _ _ _); (with_reducible rename StrsAre _ _ => hSt99z); k_dflt (refine' txt_truthy ?N ?m hSt99z ?z ?_; (case N => k_asm); (case m => k_mem); (case z => first | omega | (simp only [List.length_append, List.length_cons, List.length_nil]; omega)))) | with_reducible (k_here; (with_reducible show wpAny _ _ (subscriptTail _ _ (Value.ref _) (Value.int (-1) _)) _ _ _); (with_reducible rename StrsAre _ _ => hSt99z); k_dflt (refine' txt_last ?N ?m hSt99z ?l ?_ ?z; (case N => k_asm); (case m => k_mem); (case l => with_reducible assumption); (case z => with_unfolding_all rfl)); intro y99z t99z e99z) | with_reducible (k_here; (with_reducible show wpAny _ _ (call (Value.builtin _) [Value.ref _]) _ _ _); (with_reducible rename StrsAre _ _ => hSt99z); k_dflt (refine' txt_pop ?F ?N ?U hSt99z ?l ?z ?_; (case F => k_asm); (case N => k_asm); (case U => k_upd); (case l => assumption); (case z => omega)); intro h9z y9z t9z F9z N9z hI9z) | with_reducible (k_here; (with_reducible show wpAny _ _ (call (Value.builtin "str.split") _) _ _ _); refine KSpl.split1 (by k_asm) (by k_asm) (by decide) ?_ (by (first | exact split_fits (by assumption) | exact split_fits (Nat.le_trans (restOf_le _) (by assumption)))); intro D9z l9z h9z k9z e9z a9z F9z N9z l19z; (try k_lt l19z)) | with_reducible (k_here; (with_reducible show wpAny _ _ (call (Value.ref 273) [Value.str _ _]) _ _ _); k_dflt (refine' Pure.use' (splitroot_c _ _ _ ?kx) ?k1 ?k2 ?k3 ?k4 ?k5 ?kK ?kd ?ku trivial ?_; (case kx => walk_at "my len"); (((case k1 => k_asm); (case k2 => k_asm); (case k3 => k_asm); (case k4 => k_asm); (case k5 => k_asm); (case kK => first | exact rfl | assumption); (case kd => ktr_room); (case ku => ktr_units)))); intro v99z h99z tk99z F99z N99z f99z e99z; (obtain ⟨D99z, t99z, u99z, w99z, e99z, g99z, n99z⟩ := e99z); (cases e99z); (replace N99z := news_fresh f99z N99z g99z n99z); (clear f99z g99z n99z); (try dsimp only); (try k_fold)) | with_reducible (k_here; (with_reducible show wpAny _ _ (call (Value.ref 193) [Value.str _ _]) _ _ _); k_dflt (refine' Pure.use (get_sep_c _ _ _) ?k1 ?k2 ?k3 ?k4 ?k5 ?kK ?kd ?ku trivial ?_; (((case k1 => k_asm); (case k2 => k_asm); (case k3 => k_asm); (case k4 => k_asm); (case k5 => k_asm); (case kK => first | exact rfl | assumption); (case kd => ktr_room); (case ku => ktr_units)))); intro v99z h99z tk99z F99z N99z e99z; (obtain ⟨t99z, e99z⟩ := e99z); (cases e99z); (try dsimp only); (try k_fold)) | with_reducible (k_here; (with_reducible show wpAny _ _ (call (Value.ref 266) [Value.str _ _]) _ _ _); k_dflt (refine' Pure.use (fspath_c _ _ _) ?k1 ?k2 ?k3 ?k4 ?k5 ?kK ?kd ?ku trivial ?_; (((case k1 => k_asm); (case k2 => k_asm); (case k3 => k_asm); (case k4 => k_asm); (case k5 => k_asm); (case kK => first | exact rfl | assumption); (case kd => ktr_room); (case ku => ktr_units)))); intro v99z h99z tk99z F99z N99z e99z; (cases e99z); (try dsimp only); (try k_fold)) | walk1 | (dsimp only; walk1) | (leave1; walk_say "STEP leave1"; try dsimp only))
  unfold Hold
  rename News _ _ _ _ => nN
  k_dflt (refine' PureN.use (due_c _ _ _ _ ds sS hlen (fun d hd => (hG d hd).1) (fun d hd => (hG d hd).2.1)) ?k1 ?k2 ?k3 ?k4 ?k5 ?kK ?kd ?ku ?hs ?_; (((case k1 => k_asm); (case k2 => k_asm); (case k3 => k_asm); (case k4 => k_asm); (case k5 => k_asm); (case kK => first | exact rfl | assumption); (case kd => ktr_room); (case ku => ktr_units))); (case hs => exact fun p hp => by rw [List.mem_singleton.mp hp]; k_mem))
  intro v9 h9 tk9 F9 N9 e9
  obtain ⟨R, us2, n2, rest2, e9, M9, hJ9⟩ := e9
  cases e9
  obtain ⟨core2, hcore2, hJ9⟩ := rows_core hJ9
  replace N9 := swap2 (due_ledger M9 hcore2 N9)
  clear M9
  (try dsimp only)
  (try k_fold)
  refine store_made F9 N9 rfl rfl rfl (by assumption) ⟨rfl, rfl, rfl, rfl⟩ (by omega) (fun p hp => (List.mem_append.mp hp).elim (fun h => (hcore p h).2) fun h => (hcore2 p h).2) fun hB oB FB NB dB => ?_
  clear N9 F9
  have rowsok : ∀ p ∈ ds.flatMap rowsD, p.1.length ≤ 100 ∧ p.2.length ≤ 10000 ∧ Printable p.2 := fun p hp => by
    obtain ⟨d, hd, hp⟩ := List.mem_flatMap.mp hp
    exact (hG d hd).2.2.2.2 p hp
  have rowsn : (ds.flatMap rowsD).length ≤ 100 := by have := rows_len rowsD_len ds; omega
  generalize hrows : ds.flatMap rowsD = rows at *
  repeat' (first | (k_unfold; (try dsimp only)) | (k_end; wrow_close) | ((fail_if_success (with_reducible show wpAny _ _ _ _ _ _)); dsimp only) | with_reducible (k_here; (with_reducible show wpAny _ _ (call (Value.ref 280) [Value.str _ _]) _ _ _); k_dflt (refine' Pure.use (basename_c _ _ _ ?kx) ?k1 ?k2 ?k3 ?k4 ?k5 ?kK ?kd ?ku trivial ?_; (case kx => walk_at "my len"); (((case k1 => k_asm); (case k2 => k_asm); (case k3 => k_asm); (case k4 => k_asm); (case k5 => k_asm); (case kK => first | exact rfl | assumption); (case kd => ktr_room); (case ku => ktr_units)))); intro v99z h99z tk99z F99z N99z e99z; (obtain ⟨t99z, e99z⟩ := e99z); (cases e99z); (try dsimp only); (try k_fold)) | with_reducible (k_here; (with_reducible show wpAny _ _ (call (Value.ref 287) [Value.str _ _]) _ _ _); k_dflt (refine' Pure.use (normpath_c _ _ _ ?kx) ?k1 ?k2 ?k3 ?k4 ?k5 ?kK ?kd ?ku trivial ?_; (case kx => walk_at "my len"); (((case k1 => k_asm); (case k2 => k_asm); (case k3 => k_asm); (case k4 => k_asm); (case k5 => k_asm); (case kK => first | exact rfl | assumption); (case kd => ktr_room); (case ku => ktr_units)))); intro v99z h99z tk99z F99z N99z e99z; (obtain ⟨t99z, e99z⟩ := e99z); (cases e99z); (try dsimp only); (try k_fold)) | with_reducible (k_here; (with_reducible show wpAny _ _ (call (Value.ref 360) [Value.str (Str.ofString "X") _, Value.str (Str.ofString "a b") _]) _ _ _); k_dflt (refine' PureT.use (refused3 _ _ _) ?k1 ?k2 ?k3 ?k4 ?k5 ?kK ?kd ?ku ?_; (((case k1 => k_asm); (case k2 => k_asm); (case k3 => k_asm); (case k4 => k_asm); (case k5 => k_asm); (case kK => first | exact rfl | assumption); (case kd => ktr_room); (case ku => ktr_units)))); intro v99z h99z tk99z F99z N99z e99z; (cases e99z); (try dsimp only); (try k_fold)) | with_reducible (k_here; (with_reducible show wpAny _ _ (call (Value.ref 360) [Value.str (Str.ofString "X\n") _, Value.str (Str.ofString "a") _]) _ _ _); k_dflt (refine' PureT.use (refused2 _ _ _) ?k1 ?k2 ?k3 ?k4 ?k5 ?kK ?kd ?ku ?_; (((case k1 => k_asm); (case k2 => k_asm); (case k3 => k_asm); (case k4 => k_asm); (case k5 => k_asm); (case kK => first | exact rfl | assumption); (case kd => ktr_room); (case ku => ktr_units)))); intro v99z h99z tk99z F99z N99z e99z; (cases e99z); (try dsimp only); (try k_fold)) | with_reducible (k_here; (with_reducible show wpAny _ _ (call (Value.ref 360) [Value.str (Str.ofString "X") _, Value.str (Str.ofString "a\nb") _]) _ _ _); k_dflt (refine' PureT.use (refused1 _ _ _) ?k1 ?k2 ?k3 ?k4 ?k5 ?kK ?kd ?ku ?_; (((case k1 => k_asm); (case k2 => k_asm); (case k3 => k_asm); (case k4 => k_asm); (case k5 => k_asm); (case kK => first | exact rfl | assumption); (case kd => ktr_room); (case ku => ktr_units)))); intro v99z h99z tk99z F99z N99z e99z; (cases e99z); (try dsimp only); (try k_fold)) | with_reducible (k_here; (with_reducible show wpAny _ _ (call (Value.builtin "len") [Value.ref _]) _ _ _); (rename (List.length _ = List.length _) => hLn99z); k_dflt (refine len_any (by k_asm) (by k_mem) (by omega) ?_); intro t99z k99z) | with_reducible (k_here; (with_reducible show wpAny _ _ (binaryOp Operator.Add (Value.str _ _) (Value.str _ _)) _ _ _); k_dflt (refine addS (by first | exact fit1 (by with_reducible assumption) | exact fit2 (by with_reducible assumption) (by with_reducible assumption) | exact fit3 (by with_reducible assumption) (by with_reducible assumption) | (rw [sizeLine_eq]; (try simp only [Str.length_append]); omega)) ?_); intro t99z k99z hl99z; clear hl99z) | with_reducible (k_here; (with_reducible show wpAny _ _ (call (Value.ref 346) [Value.ref _]) _ _ _); (rename IntsAre _ (List.take 4 _) => hI99z); k_dflt (refine' PureN.use (requests_c _ _ _ 0 _ hI99z ?kl) ?k1 ?k2 ?k3 ?k4 ?k5 ?kK ?kd ?ku ?hs ?_; (case kl => (rw [List.length_take]; omega)); (((case k1 => k_asm); (case k2 => k_asm); (case k3 => k_asm); (case k4 => k_asm); (case k5 => k_asm); (case kK => first | exact rfl | assumption); (case kd => ktr_room); (case ku => ktr_units))); (case hs => exact fun p hp => by rw [List.mem_singleton.mp hp]; k_mem)); intro v99z h99z tk99z F99z N99z e99z; (obtain ⟨D99z, vs99z, n99z, e99z, M99z, S99z⟩ := e99z); (cases e99z); (replace N99z := news_both M99z N99z); (clear M99z); (try simp only [List.cons_append, List.nil_append] at N99z); (try dsimp only); (try k_fold)) | with_reducible (k_here; (with_reducible show wpAny _ _ (call (Value.ref 182) [Value.ref _]) _ _ _); k_dflt (refine' call_cls ?k1 ?k2 ?k3 ?k4 ?k5 ?k6 ?_; (case k1 => k_asm); (case k2 => k_asm); (case k3 => k_asm); (case k4 => k_is); (case k5 => k_is); (case k6 => k_is); k_whole; intro x9z d9z h9z F9z N9z l19z l29z; (try k_lt l19z); (try k_lt2 l29z); (try k_sweep); ((refine' code_def ?k1 ?k2 ?k3 ?k4 ?k5 ?kA ?kF ?kK ?k6 ?k7 ?k8 ?k9 ?kB ?_ ?c2 ?c3 ?c4 ?c5; (((case kA => exact rfl); (case kF => exact rfl); (case kK => first | exact rfl | assumption); (case k1 => k_asm); (case k2 => k_asm); (case k3 => k_asm); (try (case k4 => k_asm)); (case k5 => k_asm); (case k6 => k_is); (case k7 => k_is); (case k8 => ktr_room); (try (case k9 => first | exact BindsTo.of_eq rfl | (refine' kp_binds ?kx ?ke; (case kx => k_in); (case ke => exact fun _ => rfl)))))); (((try (case c5 => decide)); (try (case kB => exact locs rfl)); (case c2 => exact rfl); (case c3 => exact rfl); (case c4 => exact rfl); k_whole)); intro g9z L9z h9z FG9z F9z N9z B9z X9z T9z; (try dsimp only); (try k_lift B9z); (try k_fold))))) | with_reducible (k_here; (with_reducible show wpAny _ _ (call (Value.builtin "dict.get") [Value.ref _, Value.str _ _]) _ _ _); k_dflt (refine site_get (by assumption) ?_ ?_); first | (intro m99z t99z hm99z hm09z hm19z) | (intro hm99z)) | with_reducible (k_here; (with_reducible show wpAny _ _ (getMethod (Value.ref _) (Str.ofString "get") _) _ _ _); k_dflt (refine getMethod_strTab_get (by assumption) ?_)) | with_reducible (k_here; (with_reducible show wpAny _ _ (call (Value.ref 341) _) _ _ _); k_dflt (refine' Pure.use (site_c _) ?k1 ?k2 ?k3 ?k4 ?k5 ?kK ?kd ?ku trivial ?_; (((case k1 => k_asm); (case k2 => k_asm); (case k3 => k_asm); (case k4 => k_asm); (case k5 => k_asm); (case kK => first | exact rfl | assumption); (case kd => ktr_room); (case ku => ktr_units)))); intro v99z h99z tk99z F99z N99z e99z; (obtain ⟨D99z, e99z, n99z, T99z⟩ := e99z); (cases e99z); (clear n99z); (try dsimp only); (try k_fold)) | with_reducible (k_here; (with_reducible show wpAny _ _ (call (Value.ref 294) [Value.int _ _]) _ _ _); k_dflt (refine' Pure.use (ifmt_c _ _ _) ?k1 ?k2 ?k3 ?k4 ?k5 ?kK ?kd ?ku trivial ?_; (((case k1 => k_asm); (case k2 => k_asm); (case k3 => k_asm); (case k4 => k_asm); (case k5 => k_asm); (case kK => first | exact rfl | assumption); (case kd => ktr_room); (case ku => ktr_units)))); intro v99z h99z tk99z F99z N99z e99z; (obtain ⟨t99z, e99z⟩ := e99z); (cases e99z); (try dsimp only); (try k_fold)) | with_reducible (k_here; (with_reducible show wpAny _ _ (call (Value.ref 83) [Value.ref _, Value.str _ _] _) _ _ _); k_dflt (refine' PureK.use (conv_c _ _ _ _ _ ?kx ?kp) ?k1 ?k2 ?k3 ?k4 ?k5 ?kK ?kd ?ku trivial ?_; (case kx => walk_at "my len"); (case kp => walk_at "my print"); (((case k1 => k_asm); (case k2 => k_asm); (case k3 => k_asm); (case k4 => k_asm); (case k5 => k_asm); (case kK => first | exact rfl | assumption); (case kd => ktr_room); (case ku => ktr_units)))); intro v99z h99z tk99z F99z N99z e99z; (cases e99z); (try dsimp only); (try k_fold)) | with_reducible (k_here; (with_reducible show wpAny _ _ (call (Value.builtin "re.Pattern.search") [Value.ref 53, Value.str _ _]) _ _ _); k_dflt (refine' re_search (code := valueCode) ?k1 ?k2 ?k3 ?k4 ?k5 ?k6 ?k7 ?_; (case k1 => k_asm); (case k2 => k_asm); (case k3 => k_is); (case k4 => k_is); (case k5 => decide +kernel); (case k6 => assumption); (case k7 => exact value_fails (by assumption)))) | with_reducible (k_here; (with_reducible show wpAny _ _ (call (Value.builtin "re.Pattern.search") [Value.ref 48, Value.str _ _]) _ _ _); k_dflt (refine' re_search (code := nameCode) ?k1 ?k2 ?k3 ?k4 ?k5 ?k6 ?k7 ?_; (case k1 => k_asm); (case k2 => k_asm); (case k3 => k_is); (case k4 => k_is); (case k5 => decide +kernel); (case k6 => assumption); (case k7 => exact name_fails (by assumption)))) | with_reducible (k_here; (with_reducible show wpAny _ _ (getMethod (Value.ref _) (Str.ofString "search") _) _ _ _); k_dflt (refine' re_method ?k1 ?k2 ?k3 ?_; (case k1 => k_asm); (case k2 => k_asm); (case k3 => k_is))) | with_reducible (k_here; (with_reducible show wpAny _ _ (call (Value.builtin "str.join") [Value.str _ _, Value.ref _]) _ _ _); (with_reducible rename StrsAre _ _ => hSt99z); k_dflt (refine' join_listW (ys := ?ys) ?k1 ?k2 ?k3 ?k4 ?_; (case k1 => exact News.isList (by k_asm) (by k_mem)); (case k2 => simpa using hSt99z); (case k3 => decide); (case k4 => first | omega | (simp only [] at *; omega))); intro t99z k99z) | with_reducible (k_here; (with_reducible show wpAny _ _ (truthy (Value.ref _)) _ _ _); (with_reducible rename StrsAre _ _ => hSt99z); k_dflt (refine' txt_truthy ?N ?m hSt99z ?z ?_; (case N => k_asm); (case m => k_mem); (case z => first | omega | (simp only [List.length_append, List.length_cons, List.length_nil]; omega)))) | with_reducible (k_here; (with_reducible show wpAny _ _ (subscriptTail _ _ (Value.ref _) (Value.int (-1) _)) _ _ _); (with_reducible rename StrsAre _ _ => hSt99z); k_dflt (refine' txt_last ?N ?m hSt99z ?l ?_ ?z; (case N => k_asm); (case m => k_mem); (case l => with_reducible assumption); (case z => with_unfolding_all rfl)); intro y99z t99z e99z) | with_reducible (k_here; (with_reducible show wpAny _ _ (call (Value.builtin _) [Value.ref _]) _ _ _); (with_reducible rename StrsAre _ _ => hSt99z); k_dflt (refine' txt_pop ?F ?N ?U hSt99z ?l ?z ?_; (case F => k_asm); (case N => k_asm); (case U => k_upd); (case l => assumption); (case z => omega)); intro h9z y9z t9z F9z N9z hI9z) | with_reducible (k_here; (with_reducible show wpAny _ _ (call (Value.builtin "str.split") _) _ _ _); refine KSpl.split1 (by k_asm) (by k_asm) (by decide) ?_ (by (first | exact split_fits (by assumption) | exact split_fits (Nat.le_trans (restOf_le _) (by assumption)))); intro D9z l9z h9z k9z e9z a9z F9z N9z l19z; (try k_lt l19z)) | with_reducible (k_here; (with_reducible show wpAny _ _ (call (Value.ref 273) [Value.str _ _]) _ _ _); k_dflt (refine' Pure.use' (splitroot_c _ _ _ ?kx) ?k1 ?k2 ?k3 ?k4 ?k5 ?kK ?kd ?ku trivial ?_; (case kx => walk_at "my len"); (((case k1 => k_asm); (case k2 => k_asm); (case k3 => k_asm); (case k4 => k_asm); (case k5 => k_asm); (case kK => first | exact rfl | assumption); (case kd => ktr_room); (case ku => ktr_units)))); intro v99z h99z tk99z F99z N99z f99z e99z; (obtain ⟨D99z, t99z, u99z, w99z, e99z, g99z, n99z⟩ := e99z); (cases e99z); (replace N99z := news_fresh f99z N99z g99z n99z); (clear f99z g99z n99z); (try dsimp only); (try k_fold)) | with_reducible (k_here; (with_reducible show wpAny _ _ (call (Value.ref 193) [Value.str _ _]) _ _ _); k_dflt (refine' Pure.use (get_sep_c _ _ _) ?k1 ?k2 ?k3 ?k4 ?k5 ?kK ?kd ?ku trivial ?_; (((case k1 => k_asm); (case k2 => k_asm); (case k3 => k_asm); (case k4 => k_asm); (case k5 => k_asm); (case kK => first | exact rfl | assumption); (case kd => ktr_room); (case ku => ktr_units)))); intro v99z h99z tk99z F99z N99z e99z; (obtain ⟨t99z, e99z⟩ := e99z); (cases e99z); (try dsimp only); (try k_fold)) | with_reducible (k_here; (with_reducible show wpAny _ _ (call (Value.ref 266) [Value.str _ _]) _ _ _); k_dflt (refine' Pure.use (fspath_c _ _ _) ?k1 ?k2 ?k3 ?k4 ?k5 ?kK ?kd ?ku trivial ?_; (((case k1 => k_asm); (case k2 => k_asm); (case k3 => k_asm); (case k4 => k_asm); (case k5 => k_asm); (case kK => first | exact rfl | assumption); (case kd => ktr_room); (case ku => ktr_units)))); intro v99z h99z tk99z F99z N99z e99z; (cases e99z); (try dsimp only); (try k_fold)) | walk1 | (dsimp only; walk1) | (leave1; walk_say "STEP leave1"; try dsimp only))
  unfold Hold
  rename News _ _ _ _ => nN
  k_dflt (refine' PureN.use (str_c _ _ _ _ _ _ core _ rows hI9 rowsn (fun p hp => ⟨(rowsok p hp).1, (rowsok p hp).2.1⟩)) ?k1 ?k2 ?k3 ?k4 ?k5 ?kK ?kd ?ku ?hs ?_; (((case k1 => k_asm); (case k2 => k_asm); (case k3 => k_asm); (case k4 => k_asm); (case k5 => k_asm); (case kK => first | exact rfl | assumption); (case kd => ktr_room); (case ku => ktr_units))); (case hs => exact List.forall_mem_cons.mpr ⟨by k_mem, List.forall_mem_cons.mpr ⟨by k_mem, List.forall_mem_cons.mpr ⟨by k_mem, fun p hp => by repeat (first | exact List.mem_append_left _ hp | refine List.Mem.tail _ ?_)⟩⟩⟩))
  intro v9 h9 tk9 F9 N9 e9
  obtain ⟨t9, e9⟩ := e9
  cases e9
  dsimp only [StrBack]
  (try k_fold)
  clear nN
  repeat' (first | (k_unfold; (try dsimp only)) | (k_end; wrow_close) | ((fail_if_success (with_reducible show wpAny _ _ _ _ _ _)); dsimp only) | with_reducible (k_here; (with_reducible show wpAny _ _ (call (Value.ref 280) [Value.str _ _]) _ _ _); k_dflt (refine' Pure.use (basename_c _ _ _ ?kx) ?k1 ?k2 ?k3 ?k4 ?k5 ?kK ?kd ?ku trivial ?_; (case kx => walk_at "my len"); (((case k1 => k_asm); (case k2 => k_asm); (case k3 => k_asm); (case k4 => k_asm); (case k5 => k_asm); (case kK => first | exact rfl | assumption); (case kd => ktr_room); (case ku => ktr_units)))); intro v99z h99z tk99z F99z N99z e99z; (obtain ⟨t99z, e99z⟩ := e99z); (cases e99z); (try dsimp only); (try k_fold)) | with_reducible (k_here; (with_reducible show wpAny _ _ (call (Value.ref 287) [Value.str _ _]) _ _ _); k_dflt (refine' Pure.use (normpath_c _ _ _ ?kx) ?k1 ?k2 ?k3 ?k4 ?k5 ?kK ?kd ?ku trivial ?_; (case kx => walk_at "my len"); (((case k1 => k_asm); (case k2 => k_asm); (case k3 => k_asm); (case k4 => k_asm); (case k5 => k_asm); (case kK => first | exact rfl | assumption); (case kd => ktr_room); (case ku => ktr_units)))); intro v99z h99z tk99z F99z N99z e99z; (obtain ⟨t99z, e99z⟩ := e99z); (cases e99z); (try dsimp only); (try k_fold)) | with_reducible (k_here; (with_reducible show wpAny _ _ (call (Value.ref 360) [Value.str (Str.ofString "X") _, Value.str (Str.ofString "a b") _]) _ _ _); k_dflt (refine' PureT.use (refused3 _ _ _) ?k1 ?k2 ?k3 ?k4 ?k5 ?kK ?kd ?ku ?_; (((case k1 => k_asm); (case k2 => k_asm); (case k3 => k_asm); (case k4 => k_asm); (case k5 => k_asm); (case kK => first | exact rfl | assumption); (case kd => ktr_room); (case ku => ktr_units)))); intro v99z h99z tk99z F99z N99z e99z; (cases e99z); (try dsimp only); (try k_fold)) | with_reducible (k_here; (with_reducible show wpAny _ _ (call (Value.ref 360) [Value.str (Str.ofString "X\n") _, Value.str (Str.ofString "a") _]) _ _ _); k_dflt (refine' PureT.use (refused2 _ _ _) ?k1 ?k2 ?k3 ?k4 ?k5 ?kK ?kd ?ku ?_; (((case k1 => k_asm); (case k2 => k_asm); (case k3 => k_asm); (case k4 => k_asm); (case k5 => k_asm); (case kK => first | exact rfl | assumption); (case kd => ktr_room); (case ku => ktr_units)))); intro v99z h99z tk99z F99z N99z e99z; (cases e99z); (try dsimp only); (try k_fold)) | with_reducible (k_here; (with_reducible show wpAny _ _ (call (Value.ref 360) [Value.str (Str.ofString "X") _, Value.str (Str.ofString "a\nb") _]) _ _ _); k_dflt (refine' PureT.use (refused1 _ _ _) ?k1 ?k2 ?k3 ?k4 ?k5 ?kK ?kd ?ku ?_; (((case k1 => k_asm); (case k2 => k_asm); (case k3 => k_asm); (case k4 => k_asm); (case k5 => k_asm); (case kK => first | exact rfl | assumption); (case kd => ktr_room); (case ku => ktr_units)))); intro v99z h99z tk99z F99z N99z e99z; (cases e99z); (try dsimp only); (try k_fold)) | with_reducible (k_here; (with_reducible show wpAny _ _ (call (Value.builtin "len") [Value.ref _]) _ _ _); (rename (List.length _ = List.length _) => hLn99z); k_dflt (refine len_any (by k_asm) (by k_mem) (by omega) ?_); intro t99z k99z) | with_reducible (k_here; (with_reducible show wpAny _ _ (binaryOp Operator.Add (Value.str _ _) (Value.str _ _)) _ _ _); k_dflt (refine addS (by first | exact fit1 (by with_reducible assumption) | exact fit2 (by with_reducible assumption) (by with_reducible assumption) | exact fit3 (by with_reducible assumption) (by with_reducible assumption) | (rw [sizeLine_eq]; (try simp only [Str.length_append]); omega)) ?_); intro t99z k99z hl99z; clear hl99z) | with_reducible (k_here; (with_reducible show wpAny _ _ (call (Value.ref 346) [Value.ref _]) _ _ _); (rename IntsAre _ (List.take 4 _) => hI99z); k_dflt (refine' PureN.use (requests_c _ _ _ 0 _ hI99z ?kl) ?k1 ?k2 ?k3 ?k4 ?k5 ?kK ?kd ?ku ?hs ?_; (case kl => (rw [List.length_take]; omega)); (((case k1 => k_asm); (case k2 => k_asm); (case k3 => k_asm); (case k4 => k_asm); (case k5 => k_asm); (case kK => first | exact rfl | assumption); (case kd => ktr_room); (case ku => ktr_units))); (case hs => exact fun p hp => by rw [List.mem_singleton.mp hp]; k_mem)); intro v99z h99z tk99z F99z N99z e99z; (obtain ⟨D99z, vs99z, n99z, e99z, M99z, S99z⟩ := e99z); (cases e99z); (replace N99z := news_both M99z N99z); (clear M99z); (try simp only [List.cons_append, List.nil_append] at N99z); (try dsimp only); (try k_fold)) | with_reducible (k_here; (with_reducible show wpAny _ _ (call (Value.ref 182) [Value.ref _]) _ _ _); k_dflt (refine' call_cls ?k1 ?k2 ?k3 ?k4 ?k5 ?k6 ?_; (case k1 => k_asm); (case k2 => k_asm); (case k3 => k_asm); (case k4 => k_is); (case k5 => k_is); (case k6 => k_is); k_whole; intro x9z d9z h9z F9z N9z l19z l29z; (try k_lt l19z); (try k_lt2 l29z); (try k_sweep); ((refine' code_def ?k1 ?k2 ?k3 ?k4 ?k5 ?kA ?kF ?kK ?k6 ?k7 ?k8 ?k9 ?kB ?_ ?c2 ?c3 ?c4 ?c5; (((case kA => exact rfl); (case kF => exact rfl); (case kK => first | exact rfl | assumption); (case k1 => k_asm); (case k2 => k_asm); (case k3 => k_asm); (try (case k4 => k_asm)); (case k5 => k_asm); (case k6 => k_is); (case k7 => k_is); (case k8 => ktr_room); (try (case k9 => first | exact BindsTo.of_eq rfl | (refine' kp_binds ?kx ?ke; (case kx => k_in); (case ke => exact fun _ => rfl)))))); (((try (case c5 => decide)); (try (case kB => exact locs rfl)); (case c2 => exact rfl); (case c3 => exact rfl); (case c4 => exact rfl); k_whole)); intro g9z L9z h9z FG9z F9z N9z B9z X9z T9z; (try dsimp only); (try k_lift B9z); (try k_fold))))) | with_reducible (k_here; (with_reducible show wpAny _ _ (call (Value.builtin "dict.get") [Value.ref _, Value.str _ _]) _ _ _); k_dflt (refine site_get (by assumption) ?_ ?_); first | (intro m99z t99z hm99z hm09z hm19z) | (intro hm99z)) | with_reducible (k_here; (with_reducible show wpAny _ _ (getMethod (Value.ref _) (Str.ofString "get") _) _ _ _); k_dflt (refine getMethod_strTab_get (by assumption) ?_)) | with_reducible (k_here; (with_reducible show wpAny _ _ (call (Value.ref 341) _) _ _ _); k_dflt (refine' Pure.use (site_c _) ?k1 ?k2 ?k3 ?k4 ?k5 ?kK ?kd ?ku trivial ?_; (((case k1 => k_asm); (case k2 => k_asm); (case k3 => k_asm); (case k4 => k_asm); (case k5 => k_asm); (case kK => first | exact rfl | assumption); (case kd => ktr_room); (case ku => ktr_units)))); intro v99z h99z tk99z F99z N99z e99z; (obtain ⟨D99z, e99z, n99z, T99z⟩ := e99z); (cases e99z); (clear n99z); (try dsimp only); (try k_fold)) | with_reducible (k_here; (with_reducible show wpAny _ _ (call (Value.ref 294) [Value.int _ _]) _ _ _); k_dflt (refine' Pure.use (ifmt_c _ _ _) ?k1 ?k2 ?k3 ?k4 ?k5 ?kK ?kd ?ku trivial ?_; (((case k1 => k_asm); (case k2 => k_asm); (case k3 => k_asm); (case k4 => k_asm); (case k5 => k_asm); (case kK => first | exact rfl | assumption); (case kd => ktr_room); (case ku => ktr_units)))); intro v99z h99z tk99z F99z N99z e99z; (obtain ⟨t99z, e99z⟩ := e99z); (cases e99z); (try dsimp only); (try k_fold)) | with_reducible (k_here; (with_reducible show wpAny _ _ (call (Value.ref 83) [Value.ref _, Value.str _ _] _) _ _ _); k_dflt (refine' PureK.use (conv_c _ _ _ _ _ ?kx ?kp) ?k1 ?k2 ?k3 ?k4 ?k5 ?kK ?kd ?ku trivial ?_; (case kx => walk_at "my len"); (case kp => walk_at "my print"); (((case k1 => k_asm); (case k2 => k_asm); (case k3 => k_asm); (case k4 => k_asm); (case k5 => k_asm); (case kK => first | exact rfl | assumption); (case kd => ktr_room); (case ku => ktr_units)))); intro v99z h99z tk99z F99z N99z e99z; (cases e99z); (try dsimp only); (try k_fold)) | with_reducible (k_here; (with_reducible show wpAny _ _ (call (Value.builtin "re.Pattern.search") [Value.ref 53, Value.str _ _]) _ _ _); k_dflt (refine' re_search (code := valueCode) ?k1 ?k2 ?k3 ?k4 ?k5 ?k6 ?k7 ?_; (case k1 => k_asm); (case k2 => k_asm); (case k3 => k_is); (case k4 => k_is); (case k5 => decide +kernel); (case k6 => assumption); (case k7 => exact value_fails (by assumption)))) | with_reducible (k_here; (with_reducible show wpAny _ _ (call (Value.builtin "re.Pattern.search") [Value.ref 48, Value.str _ _]) _ _ _); k_dflt (refine' re_search (code := nameCode) ?k1 ?k2 ?k3 ?k4 ?k5 ?k6 ?k7 ?_; (case k1 => k_asm); (case k2 => k_asm); (case k3 => k_is); (case k4 => k_is); (case k5 => decide +kernel); (case k6 => assumption); (case k7 => exact name_fails (by assumption)))) | with_reducible (k_here; (with_reducible show wpAny _ _ (getMethod (Value.ref _) (Str.ofString "search") _) _ _ _); k_dflt (refine' re_method ?k1 ?k2 ?k3 ?_; (case k1 => k_asm); (case k2 => k_asm); (case k3 => k_is))) | with_reducible (k_here; (with_reducible show wpAny _ _ (call (Value.builtin "str.join") [Value.str _ _, Value.ref _]) _ _ _); (with_reducible rename StrsAre _ _ => hSt99z); k_dflt (refine' join_listW (ys := ?ys) ?k1 ?k2 ?k3 ?k4 ?_; (case k1 => exact News.isList (by k_asm) (by k_mem)); (case k2 => simpa using hSt99z); (case k3 => decide); (case k4 => first | omega | (simp only [] at *; omega))); intro t99z k99z) | with_reducible (k_here; (with_reducible show wpAny _ _ (truthy (Value.ref _)) _ _ _); (with_reducible rename StrsAre _ _ => hSt99z); k_dflt (refine' txt_truthy ?N ?m hSt99z ?z ?_; (case N => k_asm); (case m => k_mem); (case z => first | omega | (simp only [List.length_append, List.length_cons, List.length_nil]; omega)))) | with_reducible (k_here; (with_reducible show wpAny _ _ (subscriptTail _ _ (Value.ref _) (Value.int (-1) _)) _ _ _); (with_reducible rename StrsAre _ _ => hSt99z); k_dflt (refine' txt_last ?N ?m hSt99z ?l ?_ ?z; (case N => k_asm); (case m => k_mem); (case l => with_reducible assumption); (case z => with_unfolding_all rfl)); intro y99z t99z e99z) | with_reducible (k_here; (with_reducible show wpAny _ _ (call (Value.builtin _) [Value.ref _]) _ _ _); (with_reducible rename StrsAre _ _ => hSt99z); k_dflt (refine' txt_pop ?F ?N ?U hSt99z ?l ?z ?_; (case F => k_asm); (case N => k_asm); (case U => k_upd); (case l => assumption); (case z => omega)); intro h9z y9z t9z F9z N9z hI9z) | with_reducible (k_here; (with_reducible show wpAny _ _ (call (Value.builtin "str.split") _) _ _ _); refine KSpl.split1 (by k_asm) (by k_asm) (by decide) ?_ (by (first | exact split_fits (by assumption) | exact split_fits (Nat.le_trans (restOf_le _) (by assumption)))); intro D9z l9z h9z k9z e9z a9z F9z N9z l19z; (try k_lt l19z)) | with_reducible (k_here; (with_reducible show wpAny _ _ (call (Value.ref 273) [Value.str _ _]) _ _ _); k_dflt (refine' Pure.use' (splitroot_c _ _ _ ?kx) ?k1 ?k2 ?k3 ?k4 ?k5 ?kK ?kd ?ku trivial ?_; (case kx => walk_at "my len"); (((case k1 => k_asm); (case k2 => k_asm); (case k3 => k_asm); (case k4 => k_asm); (case k5 => k_asm); (case kK => first | exact rfl | assumption); (case kd => ktr_room); (case ku => ktr_units)))); intro v99z h99z tk99z F99z N99z f99z e99z; (obtain ⟨D99z, t99z, u99z, w99z, e99z, g99z, n99z⟩ := e99z); (cases e99z); (replace N99z := news_fresh f99z N99z g99z n99z); (clear f99z g99z n99z); (try dsimp only); (try k_fold)) | with_reducible (k_here; (with_reducible show wpAny _ _ (call (Value.ref 193) [Value.str _ _]) _ _ _); k_dflt (refine' Pure.use (get_sep_c _ _ _) ?k1 ?k2 ?k3 ?k4 ?k5 ?kK ?kd ?ku trivial ?_; (((case k1 => k_asm); (case k2 => k_asm); (case k3 => k_asm); (case k4 => k_asm); (case k5 => k_asm); (case kK => first | exact rfl | assumption); (case kd => ktr_room); (case ku => ktr_units)))); intro v99z h99z tk99z F99z N99z e99z; (obtain ⟨t99z, e99z⟩ := e99z); (cases e99z); (try dsimp only); (try k_fold)) | with_reducible (k_here; (with_reducible show wpAny _ _ (call (Value.ref 266) [Value.str _ _]) _ _ _); k_dflt (refine' Pure.use (fspath_c _ _ _) ?k1 ?k2 ?k3 ?k4 ?k5 ?kK ?kd ?ku trivial ?_; (((case k1 => k_asm); (case k2 => k_asm); (case k3 => k_asm); (case k4 => k_asm); (case k5 => k_asm); (case kK => first | exact rfl | assumption); (case kd => ktr_room); (case ku => ktr_units)))); intro v99z h99z tk99z F99z N99z e99z; (cases e99z); (try dsimp only); (try k_fold)) | walk1 | (dsimp only; walk1) | (leave1; walk_say "STEP leave1"; try dsimp only))
  unfold Hold
  refine' LCp.ListComp_P (F₀ := by k_asm) ?hc ?h1 ?h2 ?h3 ?h4 ?h5 ?h6 ?_ ?h7
  case hc => with_unfolding_all rfl
  case h1 => decide
  case h2 => rfl
  case h3 => decide
  case h4 => rfl
  case h5 => rfl
  case h6 => decide
  case h7 => intro _; rfl
  walk1
  have e2 : (Str.ofString ": ").length = 2 := rfl
  have e3 : (Str.ofString "\x0d\n").length = 2 := rfl
  have hul := hI9.length
  have hul2 := hJ9.length
  have hw := dues_sum' (fun p hp => ⟨(rowsok p hp).1, (rowsok p hp).2.1⟩) rowsn
  have hj := join_len0 hw
  rename News _ _ _ _ => nN
  refine LCp.SrcLP.ledger rfl (by k_asm) nN (List.Mem.head _) (by rw [List.size_toArray, sizeLine_eq]; omega) fun g => comp_pairs rowF hJ9 (fun p hp => by repeat (first | exact List.mem_append_right _ hp | refine List.Mem.tail _ ?_)) (.inr ⟨_, List.Mem.head _, rfl, _, rfl⟩) ?_ ?_
  · intro a b t u I oI C oC D m₂ h tk ys E' hab hC hx hx2 F' N' off ne
    obtain ⟨hal, hbl, _⟩ := rowsok _ hab
    dsimp only at hal hbl
    repeat' (first | (k_unfold; (try dsimp only)) | (k_end; wrow_close) | ((fail_if_success (with_reducible show wpAny _ _ _ _ _ _)); dsimp only) | with_reducible (k_here; (with_reducible show wpAny _ _ (call (Value.ref 280) [Value.str _ _]) _ _ _); k_dflt (refine' Pure.use (basename_c _ _ _ ?kx) ?k1 ?k2 ?k3 ?k4 ?k5 ?kK ?kd ?ku trivial ?_; (case kx => walk_at "my len"); (((case k1 => k_asm); (case k2 => k_asm); (case k3 => k_asm); (case k4 => k_asm); (case k5 => k_asm); (case kK => first | exact rfl | assumption); (case kd => ktr_room); (case ku => ktr_units)))); intro v99z h99z tk99z F99z N99z e99z; (obtain ⟨t99z, e99z⟩ := e99z); (cases e99z); (try dsimp only); (try k_fold)) | with_reducible (k_here; (with_reducible show wpAny _ _ (call (Value.ref 287) [Value.str _ _]) _ _ _); k_dflt (refine' Pure.use (normpath_c _ _ _ ?kx) ?k1 ?k2 ?k3 ?k4 ?k5 ?kK ?kd ?ku trivial ?_; (case kx => walk_at "my len"); (((case k1 => k_asm); (case k2 => k_asm); (case k3 => k_asm); (case k4 => k_asm); (case k5 => k_asm); (case kK => first | exact rfl | assumption); (case kd => ktr_room); (case ku => ktr_units)))); intro v99z h99z tk99z F99z N99z e99z; (obtain ⟨t99z, e99z⟩ := e99z); (cases e99z); (try dsimp only); (try k_fold)) | with_reducible (k_here; (with_reducible show wpAny _ _ (call (Value.ref 360) [Value.str (Str.ofString "X") _, Value.str (Str.ofString "a b") _]) _ _ _); k_dflt (refine' PureT.use (refused3 _ _ _) ?k1 ?k2 ?k3 ?k4 ?k5 ?kK ?kd ?ku ?_; (((case k1 => k_asm); (case k2 => k_asm); (case k3 => k_asm); (case k4 => k_asm); (case k5 => k_asm); (case kK => first | exact rfl | assumption); (case kd => ktr_room); (case ku => ktr_units)))); intro v99z h99z tk99z F99z N99z e99z; (cases e99z); (try dsimp only); (try k_fold)) | with_reducible (k_here; (with_reducible show wpAny _ _ (call (Value.ref 360) [Value.str (Str.ofString "X\n") _, Value.str (Str.ofString "a") _]) _ _ _); k_dflt (refine' PureT.use (refused2 _ _ _) ?k1 ?k2 ?k3 ?k4 ?k5 ?kK ?kd ?ku ?_; (((case k1 => k_asm); (case k2 => k_asm); (case k3 => k_asm); (case k4 => k_asm); (case k5 => k_asm); (case kK => first | exact rfl | assumption); (case kd => ktr_room); (case ku => ktr_units)))); intro v99z h99z tk99z F99z N99z e99z; (cases e99z); (try dsimp only); (try k_fold)) | with_reducible (k_here; (with_reducible show wpAny _ _ (call (Value.ref 360) [Value.str (Str.ofString "X") _, Value.str (Str.ofString "a\nb") _]) _ _ _); k_dflt (refine' PureT.use (refused1 _ _ _) ?k1 ?k2 ?k3 ?k4 ?k5 ?kK ?kd ?ku ?_; (((case k1 => k_asm); (case k2 => k_asm); (case k3 => k_asm); (case k4 => k_asm); (case k5 => k_asm); (case kK => first | exact rfl | assumption); (case kd => ktr_room); (case ku => ktr_units)))); intro v99z h99z tk99z F99z N99z e99z; (cases e99z); (try dsimp only); (try k_fold)) | with_reducible (k_here; (with_reducible show wpAny _ _ (call (Value.builtin "len") [Value.ref _]) _ _ _); (rename (List.length _ = List.length _) => hLn99z); k_dflt (refine len_any (by k_asm) (by k_mem) (by omega) ?_); intro t99z k99z) | with_reducible (k_here; (with_reducible show wpAny _ _ (binaryOp Operator.Add (Value.str _ _) (Value.str _ _)) _ _ _); k_dflt (refine addS (by first | exact fit1 (by with_reducible assumption) | exact fit2 (by with_reducible assumption) (by with_reducible assumption) | exact fit3 (by with_reducible assumption) (by with_reducible assumption) | (rw [sizeLine_eq]; (try simp only [Str.length_append]); omega)) ?_); intro t99z k99z hl99z; clear hl99z) | with_reducible (k_here; (with_reducible show wpAny _ _ (call (Value.ref 346) [Value.ref _]) _ _ _); (rename IntsAre _ (List.take 4 _) => hI99z); k_dflt (refine' PureN.use (requests_c _ _ _ 0 _ hI99z ?kl) ?k1 ?k2 ?k3 ?k4 ?k5 ?kK ?kd ?ku ?hs ?_; (case kl => (rw [List.length_take]; omega)); (((case k1 => k_asm); (case k2 => k_asm); (case k3 => k_asm); (case k4 => k_asm); (case k5 => k_asm); (case kK => first | exact rfl | assumption); (case kd => ktr_room); (case ku => ktr_units))); (case hs => exact fun p hp => by rw [List.mem_singleton.mp hp]; k_mem)); intro v99z h99z tk99z F99z N99z e99z; (obtain ⟨D99z, vs99z, n99z, e99z, M99z, S99z⟩ := e99z); (cases e99z); (replace N99z := news_both M99z N99z); (clear M99z); (try simp only [List.cons_append, List.nil_append] at N99z); (try dsimp only); (try k_fold)) | with_reducible (k_here; (with_reducible show wpAny _ _ (call (Value.ref 182) [Value.ref _]) _ _ _); k_dflt (refine' call_cls ?k1 ?k2 ?k3 ?k4 ?k5 ?k6 ?_; (case k1 => k_asm); (case k2 => k_asm); (case k3 => k_asm); (case k4 => k_is); (case k5 => k_is); (case k6 => k_is); k_whole; intro x9z d9z h9z F9z N9z l19z l29z; (try k_lt l19z); (try k_lt2 l29z); (try k_sweep); ((refine' code_def ?k1 ?k2 ?k3 ?k4 ?k5 ?kA ?kF ?kK ?k6 ?k7 ?k8 ?k9 ?kB ?_ ?c2 ?c3 ?c4 ?c5; (((case kA => exact rfl); (case kF => exact rfl); (case kK => first | exact rfl | assumption); (case k1 => k_asm); (case k2 => k_asm); (case k3 => k_asm); (try (case k4 => k_asm)); (case k5 => k_asm); (case k6 => k_is); (case k7 => k_is); (case k8 => ktr_room); (try (case k9 => first | exact BindsTo.of_eq rfl | (refine' kp_binds ?kx ?ke; (case kx => k_in); (case ke => exact fun _ => rfl)))))); (((try (case c5 => decide)); (try (case kB => exact locs rfl)); (case c2 => exact rfl); (case c3 => exact rfl); (case c4 => exact rfl); k_whole)); intro g9z L9z h9z FG9z F9z N9z B9z X9z T9z; (try dsimp only); (try k_lift B9z); (try k_fold))))) | with_reducible (k_here; (with_reducible show wpAny _ _ (call (Value.builtin "dict.get") [Value.ref _, Value.str _ _]) _ _ _); k_dflt (refine site_get (by assumption) ?_ ?_); first | (intro m99z t99z hm99z hm09z hm19z) | (intro hm99z)) | with_reducible (k_here; (with_reducible show wpAny _ _ (getMethod (Value.ref _) (Str.ofString "get") _) _ _ _); k_dflt (refine getMethod_strTab_get (by assumption) ?_)) | with_reducible (k_here; (with_reducible show wpAny _ _ (call (Value.ref 341) _) _ _ _); k_dflt (refine' Pure.use (site_c _) ?k1 ?k2 ?k3 ?k4 ?k5 ?kK ?kd ?ku trivial ?_; (((case k1 => k_asm); (case k2 => k_asm); (case k3 => k_asm); (case k4 => k_asm); (case k5 => k_asm); (case kK => first | exact rfl | assumption); (case kd => ktr_room); (case ku => ktr_units)))); intro v99z h99z tk99z F99z N99z e99z; (obtain ⟨D99z, e99z, n99z, T99z⟩ := e99z); (cases e99z); (clear n99z); (try dsimp only); (try k_fold)) | with_reducible (k_here; (with_reducible show wpAny _ _ (call (Value.ref 294) [Value.int _ _]) _ _ _); k_dflt (refine' Pure.use (ifmt_c _ _ _) ?k1 ?k2 ?k3 ?k4 ?k5 ?kK ?kd ?ku trivial ?_; (((case k1 => k_asm); (case k2 => k_asm); (case k3 => k_asm); (case k4 => k_asm); (case k5 => k_asm); (case kK => first | exact rfl | assumption); (case kd => ktr_room); (case ku => ktr_units)))); intro v99z h99z tk99z F99z N99z e99z; (obtain ⟨t99z, e99z⟩ := e99z); (cases e99z); (try dsimp only); (try k_fold)) | with_reducible (k_here; (with_reducible show wpAny _ _ (call (Value.ref 83) [Value.ref _, Value.str _ _] _) _ _ _); k_dflt (refine' PureK.use (conv_c _ _ _ _ _ ?kx ?kp) ?k1 ?k2 ?k3 ?k4 ?k5 ?kK ?kd ?ku trivial ?_; (case kx => walk_at "my len"); (case kp => walk_at "my print"); (((case k1 => k_asm); (case k2 => k_asm); (case k3 => k_asm); (case k4 => k_asm); (case k5 => k_asm); (case kK => first | exact rfl | assumption); (case kd => ktr_room); (case ku => ktr_units)))); intro v99z h99z tk99z F99z N99z e99z; (cases e99z); (try dsimp only); (try k_fold)) | with_reducible (k_here; (with_reducible show wpAny _ _ (call (Value.builtin "re.Pattern.search") [Value.ref 53, Value.str _ _]) _ _ _); k_dflt (refine' re_search (code := valueCode) ?k1 ?k2 ?k3 ?k4 ?k5 ?k6 ?k7 ?_; (case k1 => k_asm); (case k2 => k_asm); (case k3 => k_is); (case k4 => k_is); (case k5 => decide +kernel); (case k6 => assumption); (case k7 => exact value_fails (by assumption)))) | with_reducible (k_here; (with_reducible show wpAny _ _ (call (Value.builtin "re.Pattern.search") [Value.ref 48, Value.str _ _]) _ _ _); k_dflt (refine' re_search (code := nameCode) ?k1 ?k2 ?k3 ?k4 ?k5 ?k6 ?k7 ?_; (case k1 => k_asm); (case k2 => k_asm); (case k3 => k_is); (case k4 => k_is); (case k5 => decide +kernel); (case k6 => assumption); (case k7 => exact name_fails (by assumption)))) | with_reducible (k_here; (with_reducible show wpAny _ _ (getMethod (Value.ref _) (Str.ofString "search") _) _ _ _); k_dflt (refine' re_method ?k1 ?k2 ?k3 ?_; (case k1 => k_asm); (case k2 => k_asm); (case k3 => k_is))) | with_reducible (k_here; (with_reducible show wpAny _ _ (call (Value.builtin "str.join") [Value.str _ _, Value.ref _]) _ _ _); (with_reducible rename StrsAre _ _ => hSt99z); k_dflt (refine' join_listW (ys := ?ys) ?k1 ?k2 ?k3 ?k4 ?_; (case k1 => exact News.isList (by k_asm) (by k_mem)); (case k2 => simpa using hSt99z); (case k3 => decide); (case k4 => first | omega | (simp only [] at *; omega))); intro t99z k99z) | with_reducible (k_here; (with_reducible show wpAny _ _ (truthy (Value.ref _)) _ _ _); (with_reducible rename StrsAre _ _ => hSt99z); k_dflt (refine' txt_truthy ?N ?m hSt99z ?z ?_; (case N => k_asm); (case m => k_mem); (case z => first | omega | (simp only [List.length_append, List.length_cons, List.length_nil]; omega)))) | with_reducible (k_here; (with_reducible show wpAny _ _ (subscriptTail _ _ (Value.ref _) (Value.int (-1) _)) _ _ _); (with_reducible rename StrsAre _ _ => hSt99z); k_dflt (refine' txt_last ?N ?m hSt99z ?l ?_ ?z; (case N => k_asm); (case m => k_mem); (case l => with_reducible assumption); (case z => with_unfolding_all rfl)); intro y99z t99z e99z) | with_reducible (k_here; (with_reducible show wpAny _ _ (call (Value.builtin _) [Value.ref _]) _ _ _); (with_reducible rename StrsAre _ _ => hSt99z); k_dflt (refine' txt_pop ?F ?N ?U hSt99z ?l ?z ?_; (case F => k_asm); (case N => k_asm); (case U => k_upd); (case l => assumption); (case z => omega)); intro h9z y9z t9z F9z N9z hI9z) | with_reducible (k_here; (with_reducible show wpAny _ _ (call (Value.builtin "str.split") _) _ _ _); refine KSpl.split1 (by k_asm) (by k_asm) (by decide) ?_ (by (first | exact split_fits (by assumption) | exact split_fits (Nat.le_trans (restOf_le _) (by assumption)))); intro D9z l9z h9z k9z e9z a9z F9z N9z l19z; (try k_lt l19z)) | with_reducible (k_here; (with_reducible show wpAny _ _ (call (Value.ref 273) [Value.str _ _]) _ _ _); k_dflt (refine' Pure.use' (splitroot_c _ _ _ ?kx) ?k1 ?k2 ?k3 ?k4 ?k5 ?kK ?kd ?ku trivial ?_; (case kx => walk_at "my len"); (((case k1 => k_asm); (case k2 => k_asm); (case k3 => k_asm); (case k4 => k_asm); (case k5 => k_asm); (case kK => first | exact rfl | assumption); (case kd => ktr_room); (case ku => ktr_units)))); intro v99z h99z tk99z F99z N99z f99z e99z; (obtain ⟨D99z, t99z, u99z, w99z, e99z, g99z, n99z⟩ := e99z); (cases e99z); (replace N99z := news_fresh f99z N99z g99z n99z); (clear f99z g99z n99z); (try dsimp only); (try k_fold)) | with_reducible (k_here; (with_reducible show wpAny _ _ (call (Value.ref 193) [Value.str _ _]) _ _ _); k_dflt (refine' Pure.use (get_sep_c _ _ _) ?k1 ?k2 ?k3 ?k4 ?k5 ?kK ?kd ?ku trivial ?_; (((case k1 => k_asm); (case k2 => k_asm); (case k3 => k_asm); (case k4 => k_asm); (case k5 => k_asm); (case kK => first | exact rfl | assumption); (case kd => ktr_room); (case ku => ktr_units)))); intro v99z h99z tk99z F99z N99z e99z; (obtain ⟨t99z, e99z⟩ := e99z); (cases e99z); (try dsimp only); (try k_fold)) | with_reducible (k_here; (with_reducible show wpAny _ _ (call (Value.ref 266) [Value.str _ _]) _ _ _); k_dflt (refine' Pure.use (fspath_c _ _ _) ?k1 ?k2 ?k3 ?k4 ?k5 ?kK ?kd ?ku trivial ?_; (((case k1 => k_asm); (case k2 => k_asm); (case k3 => k_asm); (case k4 => k_asm); (case k5 => k_asm); (case kK => first | exact rfl | assumption); (case kd => ktr_room); (case ku => ktr_units)))); intro v99z h99z tk99z F99z N99z e99z; (cases e99z); (try dsimp only); (try k_fold)) | walk1 | (dsimp only; walk1) | (leave1; walk_say "STEP leave1"; try dsimp only))
    exact EltPost.mk (by with_reducible assumption) (by with_reducible assumption) (fun p hp => hp) rfl
  intro ys hys D9 h9 tk9 F9 N9 o9
  repeat' (first | (k_unfold; (try dsimp only)) | (k_end; wrow_close) | ((fail_if_success (with_reducible show wpAny _ _ _ _ _ _)); dsimp only) | with_reducible (k_here; (with_reducible show wpAny _ _ (call (Value.ref 280) [Value.str _ _]) _ _ _); k_dflt (refine' Pure.use (basename_c _ _ _ ?kx) ?k1 ?k2 ?k3 ?k4 ?k5 ?kK ?kd ?ku trivial ?_; (case kx => walk_at "my len"); (((case k1 => k_asm); (case k2 => k_asm); (case k3 => k_asm); (case k4 => k_asm); (case k5 => k_asm); (case kK => first | exact rfl | assumption); (case kd => ktr_room); (case ku => ktr_units)))); intro v99z h99z tk99z F99z N99z e99z; (obtain ⟨t99z, e99z⟩ := e99z); (cases e99z); (try dsimp only); (try k_fold)) | with_reducible (k_here; (with_reducible show wpAny _ _ (call (Value.ref 287) [Value.str _ _]) _ _ _); k_dflt (refine' Pure.use (normpath_c _ _ _ ?kx) ?k1 ?k2 ?k3 ?k4 ?k5 ?kK ?kd ?ku trivial ?_; (case kx => walk_at "my len"); (((case k1 => k_asm); (case k2 => k_asm); (case k3 => k_asm); (case k4 => k_asm); (case k5 => k_asm); (case kK => first | exact rfl | assumption); (case kd => ktr_room); (case ku => ktr_units)))); intro v99z h99z tk99z F99z N99z e99z; (obtain ⟨t99z, e99z⟩ := e99z); (cases e99z); (try dsimp only); (try k_fold)) | with_reducible (k_here; (with_reducible show wpAny _ _ (call (Value.ref 360) [Value.str (Str.ofString "X") _, Value.str (Str.ofString "a b") _]) _ _ _); k_dflt (refine' PureT.use (refused3 _ _ _) ?k1 ?k2 ?k3 ?k4 ?k5 ?kK ?kd ?ku ?_; (((case k1 => k_asm); (case k2 => k_asm); (case k3 => k_asm); (case k4 => k_asm); (case k5 => k_asm); (case kK => first | exact rfl | assumption); (case kd => ktr_room); (case ku => ktr_units)))); intro v99z h99z tk99z F99z N99z e99z; (cases e99z); (try dsimp only); (try k_fold)) | with_reducible (k_here; (with_reducible show wpAny _ _ (call (Value.ref 360) [Value.str (Str.ofString "X\n") _, Value.str (Str.ofString "a") _]) _ _ _); k_dflt (refine' PureT.use (refused2 _ _ _) ?k1 ?k2 ?k3 ?k4 ?k5 ?kK ?kd ?ku ?_; (((case k1 => k_asm); (case k2 => k_asm); (case k3 => k_asm); (case k4 => k_asm); (case k5 => k_asm); (case kK => first | exact rfl | assumption); (case kd => ktr_room); (case ku => ktr_units)))); intro v99z h99z tk99z F99z N99z e99z; (cases e99z); (try dsimp only); (try k_fold)) | with_reducible (k_here; (with_reducible show wpAny _ _ (call (Value.ref 360) [Value.str (Str.ofString "X") _, Value.str (Str.ofString "a\nb") _]) _ _ _); k_dflt (refine' PureT.use (refused1 _ _ _) ?k1 ?k2 ?k3 ?k4 ?k5 ?kK ?kd ?ku ?_; (((case k1 => k_asm); (case k2 => k_asm); (case k3 => k_asm); (case k4 => k_asm); (case k5 => k_asm); (case kK => first | exact rfl | assumption); (case kd => ktr_room); (case ku => ktr_units)))); intro v99z h99z tk99z F99z N99z e99z; (cases e99z); (try dsimp only); (try k_fold)) | with_reducible (k_here; (with_reducible show wpAny _ _ (call (Value.builtin "len") [Value.ref _]) _ _ _); (rename (List.length _ = List.length _) => hLn99z); k_dflt (refine len_any (by k_asm) (by k_mem) (by omega) ?_); intro t99z k99z) | with_reducible (k_here; (with_reducible show wpAny _ _ (binaryOp Operator.Add (Value.str _ _) (Value.str _ _)) _ _ _); k_dflt (refine addS (by first | exact fit1 (by with_reducible assumption) | exact fit2 (by with_reducible assumption) (by with_reducible assumption) | exact fit3 (by with_reducible assumption) (by with_reducible assumption) | (rw [sizeLine_eq]; (try simp only [Str.length_append]); omega)) ?_); intro t99z k99z hl99z; clear hl99z) | with_reducible (k_here; (with_reducible show wpAny _ _ (call (Value.ref 346) [Value.ref _]) _ _ _); (rename IntsAre _ (List.take 4 _) => hI99z); k_dflt (refine' PureN.use (requests_c _ _ _ 0 _ hI99z ?kl) ?k1 ?k2 ?k3 ?k4 ?k5 ?kK ?kd ?ku ?hs ?_; (case kl => (rw [List.length_take]; omega)); (((case k1 => k_asm); (case k2 => k_asm); (case k3 => k_asm); (case k4 => k_asm); (case k5 => k_asm); (case kK => first | exact rfl | assumption); (case kd => ktr_room); (case ku => ktr_units))); (case hs => exact fun p hp => by rw [List.mem_singleton.mp hp]; k_mem)); intro v99z h99z tk99z F99z N99z e99z; (obtain ⟨D99z, vs99z, n99z, e99z, M99z, S99z⟩ := e99z); (cases e99z); (replace N99z := news_both M99z N99z); (clear M99z); (try simp only [List.cons_append, List.nil_append] at N99z); (try dsimp only); (try k_fold)) | with_reducible (k_here; (with_reducible show wpAny _ _ (call (Value.ref 182) [Value.ref _]) _ _ _); k_dflt (refine' call_cls ?k1 ?k2 ?k3 ?k4 ?k5 ?k6 ?_; (case k1 => k_asm); (case k2 => k_asm); (case k3 => k_asm); (case k4 => k_is); (case k5 => k_is); (case k6 => k_is); k_whole; intro x9z d9z h9z F9z N9z l19z l29z; (try k_lt l19z); (try k_lt2 l29z); (try k_sweep); ((refine' code_def ?k1 ?k2 ?k3 ?k4 ?k5 ?kA ?kF ?kK ?k6 ?k7 ?k8 ?k9 ?kB ?_ ?c2 ?c3 ?c4 ?c5; (((case kA => exact rfl); (case kF => exact rfl); (case kK => first | exact rfl | assumption); (case k1 => k_asm); (case k2 => k_asm); (case k3 => k_asm); (try (case k4 => k_asm)); (case k5 => k_asm); (case k6 => k_is); (case k7 => k_is); (case k8 => ktr_room); (try (case k9 => first | exact BindsTo.of_eq rfl | (refine' kp_binds ?kx ?ke; (case kx => k_in); (case ke => exact fun _ => rfl)))))); (((try (case c5 => decide)); (try (case kB => exact locs rfl)); (case c2 => exact rfl); (case c3 => exact rfl); (case c4 => exact rfl); k_whole)); intro g9z L9z h9z FG9z F9z N9z B9z X9z T9z; (try dsimp only); (try k_lift B9z); (try k_fold))))) | with_reducible (k_here; (with_reducible show wpAny _ _ (call (Value.builtin "dict.get") [Value.ref _, Value.str _ _]) _ _ _); k_dflt (refine site_get (by assumption) ?_ ?_); first | (intro m99z t99z hm99z hm09z hm19z) | (intro hm99z)) | with_reducible (k_here; (with_reducible show wpAny _ _ (getMethod (Value.ref _) (Str.ofString "get") _) _ _ _); k_dflt (refine getMethod_strTab_get (by assumption) ?_)) | with_reducible (k_here; (with_reducible show wpAny _ _ (call (Value.ref 341) _) _ _ _); k_dflt (refine' Pure.use (site_c _) ?k1 ?k2 ?k3 ?k4 ?k5 ?kK ?kd ?ku trivial ?_; (((case k1 => k_asm); (case k2 => k_asm); (case k3 => k_asm); (case k4 => k_asm); (case k5 => k_asm); (case kK => first | exact rfl | assumption); (case kd => ktr_room); (case ku => ktr_units)))); intro v99z h99z tk99z F99z N99z e99z; (obtain ⟨D99z, e99z, n99z, T99z⟩ := e99z); (cases e99z); (clear n99z); (try dsimp only); (try k_fold)) | with_reducible (k_here; (with_reducible show wpAny _ _ (call (Value.ref 294) [Value.int _ _]) _ _ _); k_dflt (refine' Pure.use (ifmt_c _ _ _) ?k1 ?k2 ?k3 ?k4 ?k5 ?kK ?kd ?ku trivial ?_; (((case k1 => k_asm); (case k2 => k_asm); (case k3 => k_asm); (case k4 => k_asm); (case k5 => k_asm); (case kK => first | exact rfl | assumption); (case kd => ktr_room); (case ku => ktr_units)))); intro v99z h99z tk99z F99z N99z e99z; (obtain ⟨t99z, e99z⟩ := e99z); (cases e99z); (try dsimp only); (try k_fold)) | with_reducible (k_here; (with_reducible show wpAny _ _ (call (Value.ref 83) [Value.ref _, Value.str _ _] _) _ _ _); k_dflt (refine' PureK.use (conv_c _ _ _ _ _ ?kx ?kp) ?k1 ?k2 ?k3 ?k4 ?k5 ?kK ?kd ?ku trivial ?_; (case kx => walk_at "my len"); (case kp => walk_at "my print"); (((case k1 => k_asm); (case k2 => k_asm); (case k3 => k_asm); (case k4 => k_asm); (case k5 => k_asm); (case kK => first | exact rfl | assumption); (case kd => ktr_room); (case ku => ktr_units)))); intro v99z h99z tk99z F99z N99z e99z; (cases e99z); (try dsimp only); (try k_fold)) | with_reducible (k_here; (with_reducible show wpAny _ _ (call (Value.builtin "re.Pattern.search") [Value.ref 53, Value.str _ _]) _ _ _); k_dflt (refine' re_search (code := valueCode) ?k1 ?k2 ?k3 ?k4 ?k5 ?k6 ?k7 ?_; (case k1 => k_asm); (case k2 => k_asm); (case k3 => k_is); (case k4 => k_is); (case k5 => decide +kernel); (case k6 => assumption); (case k7 => exact value_fails (by assumption)))) | with_reducible (k_here; (with_reducible show wpAny _ _ (call (Value.builtin "re.Pattern.search") [Value.ref 48, Value.str _ _]) _ _ _); k_dflt (refine' re_search (code := nameCode) ?k1 ?k2 ?k3 ?k4 ?k5 ?k6 ?k7 ?_; (case k1 => k_asm); (case k2 => k_asm); (case k3 => k_is); (case k4 => k_is); (case k5 => decide +kernel); (case k6 => assumption); (case k7 => exact name_fails (by assumption)))) | with_reducible (k_here; (with_reducible show wpAny _ _ (getMethod (Value.ref _) (Str.ofString "search") _) _ _ _); k_dflt (refine' re_method ?k1 ?k2 ?k3 ?_; (case k1 => k_asm); (case k2 => k_asm); (case k3 => k_is))) | with_reducible (k_here; (with_reducible show wpAny _ _ (call (Value.builtin "str.join") [Value.str _ _, Value.ref _]) _ _ _); (with_reducible rename StrsAre _ _ => hSt99z); k_dflt (refine' join_listW (ys := ?ys) ?k1 ?k2 ?k3 ?k4 ?_; (case k1 => exact News.isList (by k_asm) (by k_mem)); (case k2 => simpa using hSt99z); (case k3 => decide); (case k4 => first | omega | (simp only [] at *; omega))); intro t99z k99z) | with_reducible (k_here; (with_reducible show wpAny _ _ (truthy (Value.ref _)) _ _ _); (with_reducible rename StrsAre _ _ => hSt99z); k_dflt (refine' txt_truthy ?N ?m hSt99z ?z ?_; (case N => k_asm); (case m => k_mem); (case z => first | omega | (simp only [List.length_append, List.length_cons, List.length_nil]; omega)))) | with_reducible (k_here; (with_reducible show wpAny _ _ (subscriptTail _ _ (Value.ref _) (Value.int (-1) _)) _ _ _); (with_reducible rename StrsAre _ _ => hSt99z); k_dflt (refine' txt_last ?N ?m hSt99z ?l ?_ ?z; (case N => k_asm); (case m => k_mem); (case l => with_reducible assumption); (case z => with_unfolding_all rfl)); intro y99z t99z e99z) | with_reducible (k_here; (with_reducible show wpAny _ _ (call (Value.builtin _) [Value.ref _]) _ _ _); (with_reducible rename StrsAre _ _ => hSt99z); k_dflt (refine' txt_pop ?F ?N ?U hSt99z ?l ?z ?_; (case F => k_asm); (case N => k_asm); (case U => k_upd); (case l => assumption); (case z => omega)); intro h9z y9z t9z F9z N9z hI9z) | with_reducible (k_here; (with_reducible show wpAny _ _ (call (Value.builtin "str.split") _) _ _ _); refine KSpl.split1 (by k_asm) (by k_asm) (by decide) ?_ (by (first | exact split_fits (by assumption) | exact split_fits (Nat.le_trans (restOf_le _) (by assumption)))); intro D9z l9z h9z k9z e9z a9z F9z N9z l19z; (try k_lt l19z)) | with_reducible (k_here; (with_reducible show wpAny _ _ (call (Value.ref 273) [Value.str _ _]) _ _ _); k_dflt (refine' Pure.use' (splitroot_c _ _ _ ?kx) ?k1 ?k2 ?k3 ?k4 ?k5 ?kK ?kd ?ku trivial ?_; (case kx => walk_at "my len"); (((case k1 => k_asm); (case k2 => k_asm); (case k3 => k_asm); (case k4 => k_asm); (case k5 => k_asm); (case kK => first | exact rfl | assumption); (case kd => ktr_room); (case ku => ktr_units)))); intro v99z h99z tk99z F99z N99z f99z e99z; (obtain ⟨D99z, t99z, u99z, w99z, e99z, g99z, n99z⟩ := e99z); (cases e99z); (replace N99z := news_fresh f99z N99z g99z n99z); (clear f99z g99z n99z); (try dsimp only); (try k_fold)) | with_reducible (k_here; (with_reducible show wpAny _ _ (call (Value.ref 193) [Value.str _ _]) _ _ _); k_dflt (refine' Pure.use (get_sep_c _ _ _) ?k1 ?k2 ?k3 ?k4 ?k5 ?kK ?kd ?ku trivial ?_; (((case k1 => k_asm); (case k2 => k_asm); (case k3 => k_asm); (case k4 => k_asm); (case k5 => k_asm); (case kK => first | exact rfl | assumption); (case kd => ktr_room); (case ku => ktr_units)))); intro v99z h99z tk99z F99z N99z e99z; (obtain ⟨t99z, e99z⟩ := e99z); (cases e99z); (try dsimp only); (try k_fold)) | with_reducible (k_here; (with_reducible show wpAny _ _ (call (Value.ref 266) [Value.str _ _]) _ _ _); k_dflt (refine' Pure.use (fspath_c _ _ _) ?k1 ?k2 ?k3 ?k4 ?k5 ?kK ?kd ?ku trivial ?_; (((case k1 => k_asm); (case k2 => k_asm); (case k3 => k_asm); (case k4 => k_asm); (case k5 => k_asm); (case kK => first | exact rfl | assumption); (case kd => ktr_room); (case ku => ktr_units)))); intro v99z h99z tk99z F99z N99z e99z; (cases e99z); (try dsimp only); (try k_fold)) | walk1 | (dsimp only; walk1) | (leave1; walk_say "STEP leave1"; try dsimp only))
  unfold Hold
  refine ne_same (str_eq rows) ?_
  repeat' (first | (k_unfold; (try dsimp only)) | (k_end; wrow_close) | ((fail_if_success (with_reducible show wpAny _ _ _ _ _ _)); dsimp only) | with_reducible (k_here; (with_reducible show wpAny _ _ (call (Value.ref 280) [Value.str _ _]) _ _ _); k_dflt (refine' Pure.use (basename_c _ _ _ ?kx) ?k1 ?k2 ?k3 ?k4 ?k5 ?kK ?kd ?ku trivial ?_; (case kx => walk_at "my len"); (((case k1 => k_asm); (case k2 => k_asm); (case k3 => k_asm); (case k4 => k_asm); (case k5 => k_asm); (case kK => first | exact rfl | assumption); (case kd => ktr_room); (case ku => ktr_units)))); intro v99z h99z tk99z F99z N99z e99z; (obtain ⟨t99z, e99z⟩ := e99z); (cases e99z); (try dsimp only); (try k_fold)) | with_reducible (k_here; (with_reducible show wpAny _ _ (call (Value.ref 287) [Value.str _ _]) _ _ _); k_dflt (refine' Pure.use (normpath_c _ _ _ ?kx) ?k1 ?k2 ?k3 ?k4 ?k5 ?kK ?kd ?ku trivial ?_; (case kx => walk_at "my len"); (((case k1 => k_asm); (case k2 => k_asm); (case k3 => k_asm); (case k4 => k_asm); (case k5 => k_asm); (case kK => first | exact rfl | assumption); (case kd => ktr_room); (case ku => ktr_units)))); intro v99z h99z tk99z F99z N99z e99z; (obtain ⟨t99z, e99z⟩ := e99z); (cases e99z); (try dsimp only); (try k_fold)) | with_reducible (k_here; (with_reducible show wpAny _ _ (call (Value.ref 360) [Value.str (Str.ofString "X") _, Value.str (Str.ofString "a b") _]) _ _ _); k_dflt (refine' PureT.use (refused3 _ _ _) ?k1 ?k2 ?k3 ?k4 ?k5 ?kK ?kd ?ku ?_; (((case k1 => k_asm); (case k2 => k_asm); (case k3 => k_asm); (case k4 => k_asm); (case k5 => k_asm); (case kK => first | exact rfl | assumption); (case kd => ktr_room); (case ku => ktr_units)))); intro v99z h99z tk99z F99z N99z e99z; (cases e99z); (try dsimp only); (try k_fold)) | with_reducible (k_here; (with_reducible show wpAny _ _ (call (Value.ref 360) [Value.str (Str.ofString "X\n") _, Value.str (Str.ofString "a") _]) _ _ _); k_dflt (refine' PureT.use (refused2 _ _ _) ?k1 ?k2 ?k3 ?k4 ?k5 ?kK ?kd ?ku ?_; (((case k1 => k_asm); (case k2 => k_asm); (case k3 => k_asm); (case k4 => k_asm); (case k5 => k_asm); (case kK => first | exact rfl | assumption); (case kd => ktr_room); (case ku => ktr_units)))); intro v99z h99z tk99z F99z N99z e99z; (cases e99z); (try dsimp only); (try k_fold)) | with_reducible (k_here; (with_reducible show wpAny _ _ (call (Value.ref 360) [Value.str (Str.ofString "X") _, Value.str (Str.ofString "a\nb") _]) _ _ _); k_dflt (refine' PureT.use (refused1 _ _ _) ?k1 ?k2 ?k3 ?k4 ?k5 ?kK ?kd ?ku ?_; (((case k1 => k_asm); (case k2 => k_asm); (case k3 => k_asm); (case k4 => k_asm); (case k5 => k_asm); (case kK => first | exact rfl | assumption); (case kd => ktr_room); (case ku => ktr_units)))); intro v99z h99z tk99z F99z N99z e99z; (cases e99z); (try dsimp only); (try k_fold)) | with_reducible (k_here; (with_reducible show wpAny _ _ (call (Value.builtin "len") [Value.ref _]) _ _ _); (rename (List.length _ = List.length _) => hLn99z); k_dflt (refine len_any (by k_asm) (by k_mem) (by omega) ?_); intro t99z k99z) | with_reducible (k_here; (with_reducible show wpAny _ _ (binaryOp Operator.Add (Value.str _ _) (Value.str _ _)) _ _ _); k_dflt (refine addS (by first | exact fit1 (by with_reducible assumption) | exact fit2 (by with_reducible assumption) (by with_reducible assumption) | exact fit3 (by with_reducible assumption) (by with_reducible assumption) | (rw [sizeLine_eq]; (try simp only [Str.length_append]); omega)) ?_); intro t99z k99z hl99z; clear hl99z) | with_reducible (k_here; (with_reducible show wpAny _ _ (call (Value.ref 346) [Value.ref _]) _ _ _); (rename IntsAre _ (List.take 4 _) => hI99z); k_dflt (refine' PureN.use (requests_c _ _ _ 0 _ hI99z ?kl) ?k1 ?k2 ?k3 ?k4 ?k5 ?kK ?kd ?ku ?hs ?_; (case kl => (rw [List.length_take]; omega)); (((case k1 => k_asm); (case k2 => k_asm); (case k3 => k_asm); (case k4 => k_asm); (case k5 => k_asm); (case kK => first | exact rfl | assumption); (case kd => ktr_room); (case ku => ktr_units))); (case hs => exact fun p hp => by rw [List.mem_singleton.mp hp]; k_mem)); intro v99z h99z tk99z F99z N99z e99z; (obtain ⟨D99z, vs99z, n99z, e99z, M99z, S99z⟩ := e99z); (cases e99z); (replace N99z := news_both M99z N99z); (clear M99z); (try simp only [List.cons_append, List.nil_append] at N99z); (try dsimp only); (try k_fold)) | with_reducible (k_here; (with_reducible show wpAny _ _ (call (Value.ref 182) [Value.ref _]) _ _ _); k_dflt (refine' call_cls ?k1 ?k2 ?k3 ?k4 ?k5 ?k6 ?_; (case k1 => k_asm); (case k2 => k_asm); (case k3 => k_asm); (case k4 => k_is); (case k5 => k_is); (case k6 => k_is); k_whole; intro x9z d9z h9z F9z N9z l19z l29z; (try k_lt l19z); (try k_lt2 l29z); (try k_sweep); ((refine' code_def ?k1 ?k2 ?k3 ?k4 ?k5 ?kA ?kF ?kK ?k6 ?k7 ?k8 ?k9 ?kB ?_ ?c2 ?c3 ?c4 ?c5; (((case kA => exact rfl); (case kF => exact rfl); (case kK => first | exact rfl | assumption); (case k1 => k_asm); (case k2 => k_asm); (case k3 => k_asm); (try (case k4 => k_asm)); (case k5 => k_asm); (case k6 => k_is); (case k7 => k_is); (case k8 => ktr_room); (try (case k9 => first | exact BindsTo.of_eq rfl | (refine' kp_binds ?kx ?ke; (case kx => k_in); (case ke => exact fun _ => rfl)))))); (((try (case c5 => decide)); (try (case kB => exact locs rfl)); (case c2 => exact rfl); (case c3 => exact rfl); (case c4 => exact rfl); k_whole)); intro g9z L9z h9z FG9z F9z N9z B9z X9z T9z; (try dsimp only); (try k_lift B9z); (try k_fold))))) | with_reducible (k_here; (with_reducible show wpAny _ _ (call (Value.builtin "dict.get") [Value.ref _, Value.str _ _]) _ _ _); k_dflt (refine site_get (by assumption) ?_ ?_); first | (intro m99z t99z hm99z hm09z hm19z) | (intro hm99z)) | with_reducible (k_here; (with_reducible show wpAny _ _ (getMethod (Value.ref _) (Str.ofString "get") _) _ _ _); k_dflt (refine getMethod_strTab_get (by assumption) ?_)) | with_reducible (k_here; (with_reducible show wpAny _ _ (call (Value.ref 341) _) _ _ _); k_dflt (refine' Pure.use (site_c _) ?k1 ?k2 ?k3 ?k4 ?k5 ?kK ?kd ?ku trivial ?_; (((case k1 => k_asm); (case k2 => k_asm); (case k3 => k_asm); (case k4 => k_asm); (case k5 => k_asm); (case kK => first | exact rfl | assumption); (case kd => ktr_room); (case ku => ktr_units)))); intro v99z h99z tk99z F99z N99z e99z; (obtain ⟨D99z, e99z, n99z, T99z⟩ := e99z); (cases e99z); (clear n99z); (try dsimp only); (try k_fold)) | with_reducible (k_here; (with_reducible show wpAny _ _ (call (Value.ref 294) [Value.int _ _]) _ _ _); k_dflt (refine' Pure.use (ifmt_c _ _ _) ?k1 ?k2 ?k3 ?k4 ?k5 ?kK ?kd ?ku trivial ?_; (((case k1 => k_asm); (case k2 => k_asm); (case k3 => k_asm); (case k4 => k_asm); (case k5 => k_asm); (case kK => first | exact rfl | assumption); (case kd => ktr_room); (case ku => ktr_units)))); intro v99z h99z tk99z F99z N99z e99z; (obtain ⟨t99z, e99z⟩ := e99z); (cases e99z); (try dsimp only); (try k_fold)) | with_reducible (k_here; (with_reducible show wpAny _ _ (call (Value.ref 83) [Value.ref _, Value.str _ _] _) _ _ _); k_dflt (refine' PureK.use (conv_c _ _ _ _ _ ?kx ?kp) ?k1 ?k2 ?k3 ?k4 ?k5 ?kK ?kd ?ku trivial ?_; (case kx => walk_at "my len"); (case kp => walk_at "my print"); (((case k1 => k_asm); (case k2 => k_asm); (case k3 => k_asm); (case k4 => k_asm); (case k5 => k_asm); (case kK => first | exact rfl | assumption); (case kd => ktr_room); (case ku => ktr_units)))); intro v99z h99z tk99z F99z N99z e99z; (cases e99z); (try dsimp only); (try k_fold)) | with_reducible (k_here; (with_reducible show wpAny _ _ (call (Value.builtin "re.Pattern.search") [Value.ref 53, Value.str _ _]) _ _ _); k_dflt (refine' re_search (code := valueCode) ?k1 ?k2 ?k3 ?k4 ?k5 ?k6 ?k7 ?_; (case k1 => k_asm); (case k2 => k_asm); (case k3 => k_is); (case k4 => k_is); (case k5 => decide +kernel); (case k6 => assumption); (case k7 => exact value_fails (by assumption)))) | with_reducible (k_here; (with_reducible show wpAny _ _ (call (Value.builtin "re.Pattern.search") [Value.ref 48, Value.str _ _]) _ _ _); k_dflt (refine' re_search (code := nameCode) ?k1 ?k2 ?k3 ?k4 ?k5 ?k6 ?k7 ?_; (case k1 => k_asm); (case k2 => k_asm); (case k3 => k_is); (case k4 => k_is); (case k5 => decide +kernel); (case k6 => assumption); (case k7 => exact name_fails (by assumption)))) | with_reducible (k_here; (with_reducible show wpAny _ _ (getMethod (Value.ref _) (Str.ofString "search") _) _ _ _); k_dflt (refine' re_method ?k1 ?k2 ?k3 ?_; (case k1 => k_asm); (case k2 => k_asm); (case k3 => k_is))) | with_reducible (k_here; (with_reducible show wpAny _ _ (call (Value.builtin "str.join") [Value.str _ _, Value.ref _]) _ _ _); (with_reducible rename StrsAre _ _ => hSt99z); k_dflt (refine' join_listW (ys := ?ys) ?k1 ?k2 ?k3 ?k4 ?_; (case k1 => exact News.isList (by k_asm) (by k_mem)); (case k2 => simpa using hSt99z); (case k3 => decide); (case k4 => first | omega | (simp only [] at *; omega))); intro t99z k99z) | with_reducible (k_here; (with_reducible show wpAny _ _ (truthy (Value.ref _)) _ _ _); (with_reducible rename StrsAre _ _ => hSt99z); k_dflt (refine' txt_truthy ?N ?m hSt99z ?z ?_; (case N => k_asm); (case m => k_mem); (case z => first | omega | (simp only [List.length_append, List.length_cons, List.length_nil]; omega)))) | with_reducible (k_here; (with_reducible show wpAny _ _ (subscriptTail _ _ (Value.ref _) (Value.int (-1) _)) _ _ _); (with_reducible rename StrsAre _ _ => hSt99z); k_dflt (refine' txt_last ?N ?m hSt99z ?l ?_ ?z; (case N => k_asm); (case m => k_mem); (case l => with_reducible assumption); (case z => with_unfolding_all rfl)); intro y99z t99z e99z) | with_reducible (k_here; (with_reducible show wpAny _ _ (call (Value.builtin _) [Value.ref _]) _ _ _); (with_reducible rename StrsAre _ _ => hSt99z); k_dflt (refine' txt_pop ?F ?N ?U hSt99z ?l ?z ?_; (case F => k_asm); (case N => k_asm); (case U => k_upd); (case l => assumption); (case z => omega)); intro h9z y9z t9z F9z N9z hI9z) | with_reducible (k_here; (with_reducible show wpAny _ _ (call (Value.builtin "str.split") _) _ _ _); refine KSpl.split1 (by k_asm) (by k_asm) (by decide) ?_ (by (first | exact split_fits (by assumption) | exact split_fits (Nat.le_trans (restOf_le _) (by assumption)))); intro D9z l9z h9z k9z e9z a9z F9z N9z l19z; (try k_lt l19z)) | with_reducible (k_here; (with_reducible show wpAny _ _ (call (Value.ref 273) [Value.str _ _]) _ _ _); k_dflt (refine' Pure.use' (splitroot_c _ _ _ ?kx) ?k1 ?k2 ?k3 ?k4 ?k5 ?kK ?kd ?ku trivial ?_; (case kx => walk_at "my len"); (((case k1 => k_asm); (case k2 => k_asm); (case k3 => k_asm); (case k4 => k_asm); (case k5 => k_asm); (case kK => first | exact rfl | assumption); (case kd => ktr_room); (case ku => ktr_units)))); intro v99z h99z tk99z F99z N99z f99z e99z; (obtain ⟨D99z, t99z, u99z, w99z, e99z, g99z, n99z⟩ := e99z); (cases e99z); (replace N99z := news_fresh f99z N99z g99z n99z); (clear f99z g99z n99z); (try dsimp only); (try k_fold)) | with_reducible (k_here; (with_reducible show wpAny _ _ (call (Value.ref 193) [Value.str _ _]) _ _ _); k_dflt (refine' Pure.use (get_sep_c _ _ _) ?k1 ?k2 ?k3 ?k4 ?k5 ?kK ?kd ?ku trivial ?_; (((case k1 => k_asm); (case k2 => k_asm); (case k3 => k_asm); (case k4 => k_asm); (case k5 => k_asm); (case kK => first | exact rfl | assumption); (case kd => ktr_room); (case ku => ktr_units)))); intro v99z h99z tk99z F99z N99z e99z; (obtain ⟨t99z, e99z⟩ := e99z); (cases e99z); (try dsimp only); (try k_fold)) | with_reducible (k_here; (with_reducible show wpAny _ _ (call (Value.ref 266) [Value.str _ _]) _ _ _); k_dflt (refine' Pure.use (fspath_c _ _ _) ?k1 ?k2 ?k3 ?k4 ?k5 ?kK ?kd ?ku trivial ?_; (((case k1 => k_asm); (case k2 => k_asm); (case k3 => k_asm); (case k4 => k_asm); (case k5 => k_asm); (case kK => first | exact rfl | assumption); (case kd => ktr_room); (case ku => ktr_units)))); intro v99z h99z tk99z F99z N99z e99z; (cases e99z); (try dsimp only); (try k_fold)) | walk1 | (dsimp only; walk1) | (leave1; walk_say "STEP leave1"; try dsimp only))
  unfold Hold
  rename News _ _ _ _ => nN
  k_dflt (refine' PureN.use (len_c _ _ _ _ us _ core _ (by omega)) ?k1 ?k2 ?k3 ?k4 ?k5 ?kK ?kd ?ku ?hs ?_; (((case k1 => k_asm); (case k2 => k_asm); (case k3 => k_asm); (case k4 => k_asm); (case k5 => k_asm); (case kK => first | exact rfl | assumption); (case kd => ktr_room); (case ku => ktr_units))); (case hs => exact List.forall_mem_cons.mpr ⟨by k_mem, List.forall_mem_cons.mpr ⟨by k_mem, List.forall_mem_cons.mpr ⟨by k_mem, fun p hp => by repeat (first | exact List.mem_append_left _ hp | refine List.Mem.tail _ ?_)⟩⟩⟩))
  intro v9 h9 tk9 F9 N9 e9
  obtain ⟨t9, e9⟩ := e9
  cases e9
  refine ⟨⟨by omega, by omega⟩, ?_⟩
  (try dsimp only)
  (try k_fold)
  clear nN
  repeat' (first | (k_unfold; (try dsimp only)) | (k_end; wrow_close) | ((fail_if_success (with_reducible show wpAny _ _ _ _ _ _)); dsimp only) | with_reducible (k_here; (with_reducible show wpAny _ _ (call (Value.ref 280) [Value.str _ _]) _ _ _); k_dflt (refine' Pure.use (basename_c _ _ _ ?kx) ?k1 ?k2 ?k3 ?k4 ?k5 ?kK ?kd ?ku trivial ?_; (case kx => walk_at "my len"); (((case k1 => k_asm); (case k2 => k_asm); (case k3 => k_asm); (case k4 => k_asm); (case k5 => k_asm); (case kK => first | exact rfl | assumption); (case kd => ktr_room); (case ku => ktr_units)))); intro v99z h99z tk99z F99z N99z e99z; (obtain ⟨t99z, e99z⟩ := e99z); (cases e99z); (try dsimp only); (try k_fold)) | with_reducible (k_here; (with_reducible show wpAny _ _ (call (Value.ref 287) [Value.str _ _]) _ _ _); k_dflt (refine' Pure.use (normpath_c _ _ _ ?kx) ?k1 ?k2 ?k3 ?k4 ?k5 ?kK ?kd ?ku trivial ?_; (case kx => walk_at "my len"); (((case k1 => k_asm); (case k2 => k_asm); (case k3 => k_asm); (case k4 => k_asm); (case k5 => k_asm); (case kK => first | exact rfl | assumption); (case kd => ktr_room); (case ku => ktr_units)))); intro v99z h99z tk99z F99z N99z e99z; (obtain ⟨t99z, e99z⟩ := e99z); (cases e99z); (try dsimp only); (try k_fold)) | with_reducible (k_here; (with_reducible show wpAny _ _ (call (Value.ref 360) [Value.str (Str.ofString "X") _, Value.str (Str.ofString "a b") _]) _ _ _); k_dflt (refine' PureT.use (refused3 _ _ _) ?k1 ?k2 ?k3 ?k4 ?k5 ?kK ?kd ?ku ?_; (((case k1 => k_asm); (case k2 => k_asm); (case k3 => k_asm); (case k4 => k_asm); (case k5 => k_asm); (case kK => first | exact rfl | assumption); (case kd => ktr_room); (case ku => ktr_units)))); intro v99z h99z tk99z F99z N99z e99z; (cases e99z); (try dsimp only); (try k_fold)) | with_reducible (k_here; (with_reducible show wpAny _ _ (call (Value.ref 360) [Value.str (Str.ofString "X\n") _, Value.str (Str.ofString "a") _]) _ _ _); k_dflt (refine' PureT.use (refused2 _ _ _) ?k1 ?k2 ?k3 ?k4 ?k5 ?kK ?kd ?ku ?_; (((case k1 => k_asm); (case k2 => k_asm); (case k3 => k_asm); (case k4 => k_asm); (case k5 => k_asm); (case kK => first | exact rfl | assumption); (case kd => ktr_room); (case ku => ktr_units)))); intro v99z h99z tk99z F99z N99z e99z; (cases e99z); (try dsimp only); (try k_fold)) | with_reducible (k_here; (with_reducible show wpAny _ _ (call (Value.ref 360) [Value.str (Str.ofString "X") _, Value.str (Str.ofString "a\nb") _]) _ _ _); k_dflt (refine' PureT.use (refused1 _ _ _) ?k1 ?k2 ?k3 ?k4 ?k5 ?kK ?kd ?ku ?_; (((case k1 => k_asm); (case k2 => k_asm); (case k3 => k_asm); (case k4 => k_asm); (case k5 => k_asm); (case kK => first | exact rfl | assumption); (case kd => ktr_room); (case ku => ktr_units)))); intro v99z h99z tk99z F99z N99z e99z; (cases e99z); (try dsimp only); (try k_fold)) | with_reducible (k_here; (with_reducible show wpAny _ _ (call (Value.builtin "len") [Value.ref _]) _ _ _); (rename (List.length _ = List.length _) => hLn99z); k_dflt (refine len_any (by k_asm) (by k_mem) (by omega) ?_); intro t99z k99z) | with_reducible (k_here; (with_reducible show wpAny _ _ (binaryOp Operator.Add (Value.str _ _) (Value.str _ _)) _ _ _); k_dflt (refine addS (by first | exact fit1 (by with_reducible assumption) | exact fit2 (by with_reducible assumption) (by with_reducible assumption) | exact fit3 (by with_reducible assumption) (by with_reducible assumption) | (rw [sizeLine_eq]; (try simp only [Str.length_append]); omega)) ?_); intro t99z k99z hl99z; clear hl99z) | with_reducible (k_here; (with_reducible show wpAny _ _ (call (Value.ref 346) [Value.ref _]) _ _ _); (rename IntsAre _ (List.take 4 _) => hI99z); k_dflt (refine' PureN.use (requests_c _ _ _ 0 _ hI99z ?kl) ?k1 ?k2 ?k3 ?k4 ?k5 ?kK ?kd ?ku ?hs ?_; (case kl => (rw [List.length_take]; omega)); (((case k1 => k_asm); (case k2 => k_asm); (case k3 => k_asm); (case k4 => k_asm); (case k5 => k_asm); (case kK => first | exact rfl | assumption); (case kd => ktr_room); (case ku => ktr_units))); (case hs => exact fun p hp => by rw [List.mem_singleton.mp hp]; k_mem)); intro v99z h99z tk99z F99z N99z e99z; (obtain ⟨D99z, vs99z, n99z, e99z, M99z, S99z⟩ := e99z); (cases e99z); (replace N99z := news_both M99z N99z); (clear M99z); (try simp only [List.cons_append, List.nil_append] at N99z); (try dsimp only); (try k_fold)) | with_reducible (k_here; (with_reducible show wpAny _ _ (call (Value.ref 182) [Value.ref _]) _ _ _); k_dflt (refine' call_cls ?k1 ?k2 ?k3 ?k4 ?k5 ?k6 ?_; (case k1 => k_asm); (case k2 => k_asm); (case k3 => k_asm); (case k4 => k_is); (case k5 => k_is); (case k6 => k_is); k_whole; intro x9z d9z h9z F9z N9z l19z l29z; (try k_lt l19z); (try k_lt2 l29z); (try k_sweep); ((refine' code_def ?k1 ?k2 ?k3 ?k4 ?k5 ?kA ?kF ?kK ?k6 ?k7 ?k8 ?k9 ?kB ?_ ?c2 ?c3 ?c4 ?c5; (((case kA => exact rfl); (case kF => exact rfl); (case kK => first | exact rfl | assumption); (case k1 => k_asm); (case k2 => k_asm); (case k3 => k_asm); (try (case k4 => k_asm)); (case k5 => k_asm); (case k6 => k_is); (case k7 => k_is); (case k8 => ktr_room); (try (case k9 => first | exact BindsTo.of_eq rfl | (refine' kp_binds ?kx ?ke; (case kx => k_in); (case ke => exact fun _ => rfl)))))); (((try (case c5 => decide)); (try (case kB => exact locs rfl)); (case c2 => exact rfl); (case c3 => exact rfl); (case c4 => exact rfl); k_whole)); intro g9z L9z h9z FG9z F9z N9z B9z X9z T9z; (try dsimp only); (try k_lift B9z); (try k_fold))))) | with_reducible (k_here; (with_reducible show wpAny _ _ (call (Value.builtin "dict.get") [Value.ref _, Value.str _ _]) _ _ _); k_dflt (refine site_get (by assumption) ?_ ?_); first | (intro m99z t99z hm99z hm09z hm19z) | (intro hm99z)) | with_reducible (k_here; (with_reducible show wpAny _ _ (getMethod (Value.ref _) (Str.ofString "get") _) _ _ _); k_dflt (refine getMethod_strTab_get (by assumption) ?_)) | with_reducible (k_here; (with_reducible show wpAny _ _ (call (Value.ref 341) _) _ _ _); k_dflt (refine' Pure.use (site_c _) ?k1 ?k2 ?k3 ?k4 ?k5 ?kK ?kd ?ku trivial ?_; (((case k1 => k_asm); (case k2 => k_asm); (case k3 => k_asm); (case k4 => k_asm); (case k5 => k_asm); (case kK => first | exact rfl | assumption); (case kd => ktr_room); (case ku => ktr_units)))); intro v99z h99z tk99z F99z N99z e99z; (obtain ⟨D99z, e99z, n99z, T99z⟩ := e99z); (cases e99z); (clear n99z); (try dsimp only); (try k_fold)) | with_reducible (k_here; (with_reducible show wpAny _ _ (call (Value.ref 294) [Value.int _ _]) _ _ _); k_dflt (refine' Pure.use (ifmt_c _ _ _) ?k1 ?k2 ?k3 ?k4 ?k5 ?kK ?kd ?ku trivial ?_; (((case k1 => k_asm); (case k2 => k_asm); (case k3 => k_asm); (case k4 => k_asm); (case k5 => k_asm); (case kK => first | exact rfl | assumption); (case kd => ktr_room); (case ku => ktr_units)))); intro v99z h99z tk99z F99z N99z e99z; (obtain ⟨t99z, e99z⟩ := e99z); (cases e99z); (try dsimp only); (try k_fold)) | with_reducible (k_here; (with_reducible show wpAny _ _ (call (Value.ref 83) [Value.ref _, Value.str _ _] _) _ _ _); k_dflt (refine' PureK.use (conv_c _ _ _ _ _ ?kx ?kp) ?k1 ?k2 ?k3 ?k4 ?k5 ?kK ?kd ?ku trivial ?_; (case kx => walk_at "my len"); (case kp => walk_at "my print"); (((case k1 => k_asm); (case k2 => k_asm); (case k3 => k_asm); (case k4 => k_asm); (case k5 => k_asm); (case kK => first | exact rfl | assumption); (case kd => ktr_room); (case ku => ktr_units)))); intro v99z h99z tk99z F99z N99z e99z; (cases e99z); (try dsimp only); (try k_fold)) | with_reducible (k_here; (with_reducible show wpAny _ _ (call (Value.builtin "re.Pattern.search") [Value.ref 53, Value.str _ _]) _ _ _); k_dflt (refine' re_search (code := valueCode) ?k1 ?k2 ?k3 ?k4 ?k5 ?k6 ?k7 ?_; (case k1 => k_asm); (case k2 => k_asm); (case k3 => k_is); (case k4 => k_is); (case k5 => decide +kernel); (case k6 => assumption); (case k7 => exact value_fails (by assumption)))) | with_reducible (k_here; (with_reducible show wpAny _ _ (call (Value.builtin "re.Pattern.search") [Value.ref 48, Value.str _ _]) _ _ _); k_dflt (refine' re_search (code := nameCode) ?k1 ?k2 ?k3 ?k4 ?k5 ?k6 ?k7 ?_; (case k1 => k_asm); (case k2 => k_asm); (case k3 => k_is); (case k4 => k_is); (case k5 => decide +kernel); (case k6 => assumption); (case k7 => exact name_fails (by assumption)))) | with_reducible (k_here; (with_reducible show wpAny _ _ (getMethod (Value.ref _) (Str.ofString "search") _) _ _ _); k_dflt (refine' re_method ?k1 ?k2 ?k3 ?_; (case k1 => k_asm); (case k2 => k_asm); (case k3 => k_is))) | with_reducible (k_here; (with_reducible show wpAny _ _ (call (Value.builtin "str.join") [Value.str _ _, Value.ref _]) _ _ _); (with_reducible rename StrsAre _ _ => hSt99z); k_dflt (refine' join_listW (ys := ?ys) ?k1 ?k2 ?k3 ?k4 ?_; (case k1 => exact News.isList (by k_asm) (by k_mem)); (case k2 => simpa using hSt99z); (case k3 => decide); (case k4 => first | omega | (simp only [] at *; omega))); intro t99z k99z) | with_reducible (k_here; (with_reducible show wpAny _ _ (truthy (Value.ref _)) _ _ _); (with_reducible rename StrsAre _ _ => hSt99z); k_dflt (refine' txt_truthy ?N ?m hSt99z ?z ?_; (case N => k_asm); (case m => k_mem); (case z => first | omega | (simp only [List.length_append, List.length_cons, List.length_nil]; omega)))) | with_reducible (k_here; (with_reducible show wpAny _ _ (subscriptTail _ _ (Value.ref _) (Value.int (-1) _)) _ _ _); (with_reducible rename StrsAre _ _ => hSt99z); k_dflt (refine' txt_last ?N ?m hSt99z ?l ?_ ?z; (case N => k_asm); (case m => k_mem); (case l => with_reducible assumption); (case z => with_unfolding_all rfl)); intro y99z t99z e99z) | with_reducible (k_here; (with_reducible show wpAny _ _ (call (Value.builtin _) [Value.ref _]) _ _ _); (with_reducible rename StrsAre _ _ => hSt99z); k_dflt (refine' txt_pop ?F ?N ?U hSt99z ?l ?z ?_; (case F => k_asm); (case N => k_asm); (case U => k_upd); (case l => assumption); (case z => omega)); intro h9z y9z t9z F9z N9z hI9z) | with_reducible (k_here; (with_reducible show wpAny _ _ (call (Value.builtin "str.split") _) _ _ _); refine KSpl.split1 (by k_asm) (by k_asm) (by decide) ?_ (by (first | exact split_fits (by assumption) | exact split_fits (Nat.le_trans (restOf_le _) (by assumption)))); intro D9z l9z h9z k9z e9z a9z F9z N9z l19z; (try k_lt l19z)) | with_reducible (k_here; (with_reducible show wpAny _ _ (call (Value.ref 273) [Value.str _ _]) _ _ _); k_dflt (refine' Pure.use' (splitroot_c _ _ _ ?kx) ?k1 ?k2 ?k3 ?k4 ?k5 ?kK ?kd ?ku trivial ?_; (case kx => walk_at "my len"); (((case k1 => k_asm); (case k2 => k_asm); (case k3 => k_asm); (case k4 => k_asm); (case k5 => k_asm); (case kK => first | exact rfl | assumption); (case kd => ktr_room); (case ku => ktr_units)))); intro v99z h99z tk99z F99z N99z f99z e99z; (obtain ⟨D99z, t99z, u99z, w99z, e99z, g99z, n99z⟩ := e99z); (cases e99z); (replace N99z := news_fresh f99z N99z g99z n99z); (clear f99z g99z n99z); (try dsimp only); (try k_fold)) | with_reducible (k_here; (with_reducible show wpAny _ _ (call (Value.ref 193) [Value.str _ _]) _ _ _); k_dflt (refine' Pure.use (get_sep_c _ _ _) ?k1 ?k2 ?k3 ?k4 ?k5 ?kK ?kd ?ku trivial ?_; (((case k1 => k_asm); (case k2 => k_asm); (case k3 => k_asm); (case k4 => k_asm); (case k5 => k_asm); (case kK => first | exact rfl | assumption); (case kd => ktr_room); (case ku => ktr_units)))); intro v99z h99z tk99z F99z N99z e99z; (obtain ⟨t99z, e99z⟩ := e99z); (cases e99z); (try dsimp only); (try k_fold)) | with_reducible (k_here; (with_reducible show wpAny _ _ (call (Value.ref 266) [Value.str _ _]) _ _ _); k_dflt (refine' Pure.use (fspath_c _ _ _) ?k1 ?k2 ?k3 ?k4 ?k5 ?kK ?kd ?ku trivial ?_; (((case k1 => k_asm); (case k2 => k_asm); (case k3 => k_asm); (case k4 => k_asm); (case k5 => k_asm); (case kK => first | exact rfl | assumption); (case kd => ktr_room); (case ku => ktr_units)))); intro v99z h99z tk99z F99z N99z e99z; (cases e99z); (try dsimp only); (try k_fold)) | walk1 | (dsimp only; walk1) | (leave1; walk_say "STEP leave1"; try dsimp only))
  unfold Hold
  refine ne_int_same (by omega) ?_
  repeat' (first | (k_unfold; (try dsimp only)) | (k_end; wrow_close) | ((fail_if_success (with_reducible show wpAny _ _ _ _ _ _)); dsimp only) | with_reducible (k_here; (with_reducible show wpAny _ _ (call (Value.ref 280) [Value.str _ _]) _ _ _); k_dflt (refine' Pure.use (basename_c _ _ _ ?kx) ?k1 ?k2 ?k3 ?k4 ?k5 ?kK ?kd ?ku trivial ?_; (case kx => walk_at "my len"); (((case k1 => k_asm); (case k2 => k_asm); (case k3 => k_asm); (case k4 => k_asm); (case k5 => k_asm); (case kK => first | exact rfl | assumption); (case kd => ktr_room); (case ku => ktr_units)))); intro v99z h99z tk99z F99z N99z e99z; (obtain ⟨t99z, e99z⟩ := e99z); (cases e99z); (try dsimp only); (try k_fold)) | with_reducible (k_here; (with_reducible show wpAny _ _ (call (Value.ref 287) [Value.str _ _]) _ _ _); k_dflt (refine' Pure.use (normpath_c _ _ _ ?kx) ?k1 ?k2 ?k3 ?k4 ?k5 ?kK ?kd ?ku trivial ?_; (case kx => walk_at "my len"); (((case k1 => k_asm); (case k2 => k_asm); (case k3 => k_asm); (case k4 => k_asm); (case k5 => k_asm); (case kK => first | exact rfl | assumption); (case kd => ktr_room); (case ku => ktr_units)))); intro v99z h99z tk99z F99z N99z e99z; (obtain ⟨t99z, e99z⟩ := e99z); (cases e99z); (try dsimp only); (try k_fold)) | with_reducible (k_here; (with_reducible show wpAny _ _ (call (Value.ref 360) [Value.str (Str.ofString "X") _, Value.str (Str.ofString "a b") _]) _ _ _); k_dflt (refine' PureT.use (refused3 _ _ _) ?k1 ?k2 ?k3 ?k4 ?k5 ?kK ?kd ?ku ?_; (((case k1 => k_asm); (case k2 => k_asm); (case k3 => k_asm); (case k4 => k_asm); (case k5 => k_asm); (case kK => first | exact rfl | assumption); (case kd => ktr_room); (case ku => ktr_units)))); intro v99z h99z tk99z F99z N99z e99z; (cases e99z); (try dsimp only); (try k_fold)) | with_reducible (k_here; (with_reducible show wpAny _ _ (call (Value.ref 360) [Value.str (Str.ofString "X\n") _, Value.str (Str.ofString "a") _]) _ _ _); k_dflt (refine' PureT.use (refused2 _ _ _) ?k1 ?k2 ?k3 ?k4 ?k5 ?kK ?kd ?ku ?_; (((case k1 => k_asm); (case k2 => k_asm); (case k3 => k_asm); (case k4 => k_asm); (case k5 => k_asm); (case kK => first | exact rfl | assumption); (case kd => ktr_room); (case ku => ktr_units)))); intro v99z h99z tk99z F99z N99z e99z; (cases e99z); (try dsimp only); (try k_fold)) | with_reducible (k_here; (with_reducible show wpAny _ _ (call (Value.ref 360) [Value.str (Str.ofString "X") _, Value.str (Str.ofString "a\nb") _]) _ _ _); k_dflt (refine' PureT.use (refused1 _ _ _) ?k1 ?k2 ?k3 ?k4 ?k5 ?kK ?kd ?ku ?_; (((case k1 => k_asm); (case k2 => k_asm); (case k3 => k_asm); (case k4 => k_asm); (case k5 => k_asm); (case kK => first | exact rfl | assumption); (case kd => ktr_room); (case ku => ktr_units)))); intro v99z h99z tk99z F99z N99z e99z; (cases e99z); (try dsimp only); (try k_fold)) | with_reducible (k_here; (with_reducible show wpAny _ _ (call (Value.builtin "len") [Value.ref _]) _ _ _); (rename (List.length _ = List.length _) => hLn99z); k_dflt (refine len_any (by k_asm) (by k_mem) (by omega) ?_); intro t99z k99z) | with_reducible (k_here; (with_reducible show wpAny _ _ (binaryOp Operator.Add (Value.str _ _) (Value.str _ _)) _ _ _); k_dflt (refine addS (by first | exact fit1 (by with_reducible assumption) | exact fit2 (by with_reducible assumption) (by with_reducible assumption) | exact fit3 (by with_reducible assumption) (by with_reducible assumption) | (rw [sizeLine_eq]; (try simp only [Str.length_append]); omega)) ?_); intro t99z k99z hl99z; clear hl99z) | with_reducible (k_here; (with_reducible show wpAny _ _ (call (Value.ref 346) [Value.ref _]) _ _ _); (rename IntsAre _ (List.take 4 _) => hI99z); k_dflt (refine' PureN.use (requests_c _ _ _ 0 _ hI99z ?kl) ?k1 ?k2 ?k3 ?k4 ?k5 ?kK ?kd ?ku ?hs ?_; (case kl => (rw [List.length_take]; omega)); (((case k1 => k_asm); (case k2 => k_asm); (case k3 => k_asm); (case k4 => k_asm); (case k5 => k_asm); (case kK => first | exact rfl | assumption); (case kd => ktr_room); (case ku => ktr_units))); (case hs => exact fun p hp => by rw [List.mem_singleton.mp hp]; k_mem)); intro v99z h99z tk99z F99z N99z e99z; (obtain ⟨D99z, vs99z, n99z, e99z, M99z, S99z⟩ := e99z); (cases e99z); (replace N99z := news_both M99z N99z); (clear M99z); (try simp only [List.cons_append, List.nil_append] at N99z); (try dsimp only); (try k_fold)) | with_reducible (k_here; (with_reducible show wpAny _ _ (call (Value.ref 182) [Value.ref _]) _ _ _); k_dflt (refine' call_cls ?k1 ?k2 ?k3 ?k4 ?k5 ?k6 ?_; (case k1 => k_asm); (case k2 => k_asm); (case k3 => k_asm); (case k4 => k_is); (case k5 => k_is); (case k6 => k_is); k_whole; intro x9z d9z h9z F9z N9z l19z l29z; (try k_lt l19z); (try k_lt2 l29z); (try k_sweep); ((refine' code_def ?k1 ?k2 ?k3 ?k4 ?k5 ?kA ?kF ?kK ?k6 ?k7 ?k8 ?k9 ?kB ?_ ?c2 ?c3 ?c4 ?c5; (((case kA => exact rfl); (case kF => exact rfl); (case kK => first | exact rfl | assumption); (case k1 => k_asm); (case k2 => k_asm); (case k3 => k_asm); (try (case k4 => k_asm)); (case k5 => k_asm); (case k6 => k_is); (case k7 => k_is); (case k8 => ktr_room); (try (case k9 => first | exact BindsTo.of_eq rfl | (refine' kp_binds ?kx ?ke; (case kx => k_in); (case ke => exact fun _ => rfl)))))); (((try (case c5 => decide)); (try (case kB => exact locs rfl)); (case c2 => exact rfl); (case c3 => exact rfl); (case c4 => exact rfl); k_whole)); intro g9z L9z h9z FG9z F9z N9z B9z X9z T9z; (try dsimp only); (try k_lift B9z); (try k_fold))))) | with_reducible (k_here; (with_reducible show wpAny _ _ (call (Value.builtin "dict.get") [Value.ref _, Value.str _ _]) _ _ _); k_dflt (refine site_get (by assumption) ?_ ?_); first | (intro m99z t99z hm99z hm09z hm19z) | (intro hm99z)) | with_reducible (k_here; (with_reducible show wpAny _ _ (getMethod (Value.ref _) (Str.ofString "get") _) _ _ _); k_dflt (refine getMethod_strTab_get (by assumption) ?_)) | with_reducible (k_here; (with_reducible show wpAny _ _ (call (Value.ref 341) _) _ _ _); k_dflt (refine' Pure.use (site_c _) ?k1 ?k2 ?k3 ?k4 ?k5 ?kK ?kd ?ku trivial ?_; (((case k1 => k_asm); (case k2 => k_asm); (case k3 => k_asm); (case k4 => k_asm); (case k5 => k_asm); (case kK => first | exact rfl | assumption); (case kd => ktr_room); (case ku => ktr_units)))); intro v99z h99z tk99z F99z N99z e99z; (obtain ⟨D99z, e99z, n99z, T99z⟩ := e99z); (cases e99z); (clear n99z); (try dsimp only); (try k_fold)) | with_reducible (k_here; (with_reducible show wpAny _ _ (call (Value.ref 294) [Value.int _ _]) _ _ _); k_dflt (refine' Pure.use (ifmt_c _ _ _) ?k1 ?k2 ?k3 ?k4 ?k5 ?kK ?kd ?ku trivial ?_; (((case k1 => k_asm); (case k2 => k_asm); (case k3 => k_asm); (case k4 => k_asm); (case k5 => k_asm); (case kK => first | exact rfl | assumption); (case kd => ktr_room); (case ku => ktr_units)))); intro v99z h99z tk99z F99z N99z e99z; (obtain ⟨t99z, e99z⟩ := e99z); (cases e99z); (try dsimp only); (try k_fold)) | with_reducible (k_here; (with_reducible show wpAny _ _ (call (Value.ref 83) [Value.ref _, Value.str _ _] _) _ _ _); k_dflt (refine' PureK.use (conv_c _ _ _ _ _ ?kx ?kp) ?k1 ?k2 ?k3 ?k4 ?k5 ?kK ?kd ?ku trivial ?_; (case kx => walk_at "my len"); (case kp => walk_at "my print"); (((case k1 => k_asm); (case k2 => k_asm); (case k3 => k_asm); (case k4 => k_asm); (case k5 => k_asm); (case kK => first | exact rfl | assumption); (case kd => ktr_room); (case ku => ktr_units)))); intro v99z h99z tk99z F99z N99z e99z; (cases e99z); (try dsimp only); (try k_fold)) | with_reducible (k_here; (with_reducible show wpAny _ _ (call (Value.builtin "re.Pattern.search") [Value.ref 53, Value.str _ _]) _ _ _); k_dflt (refine' re_search (code := valueCode) ?k1 ?k2 ?k3 ?k4 ?k5 ?k6 ?k7 ?_; (case k1 => k_asm); (case k2 => k_asm); (case k3 => k_is); (case k4 => k_is); (case k5 => decide +kernel); (case k6 => assumption); (case k7 => exact value_fails (by assumption)))) | with_reducible (k_here; (with_reducible show wpAny _ _ (call (Value.builtin "re.Pattern.search") [Value.ref 48, Value.str _ _]) _ _ _); k_dflt (refine' re_search (code := nameCode) ?k1 ?k2 ?k3 ?k4 ?k5 ?k6 ?k7 ?_; (case k1 => k_asm); (case k2 => k_asm); (case k3 => k_is); (case k4 => k_is); (case k5 => decide +kernel); (case k6 => assumption); (case k7 => exact name_fails (by assumption)))) | with_reducible (k_here; (with_reducible show wpAny _ _ (getMethod (Value.ref _) (Str.ofString "search") _) _ _ _); k_dflt (refine' re_method ?k1 ?k2 ?k3 ?_; (case k1 => k_asm); (case k2 => k_asm); (case k3 => k_is))) | with_reducible (k_here; (with_reducible show wpAny _ _ (call (Value.builtin "str.join") [Value.str _ _, Value.ref _]) _ _ _); (with_reducible rename StrsAre _ _ => hSt99z); k_dflt (refine' join_listW (ys := ?ys) ?k1 ?k2 ?k3 ?k4 ?_; (case k1 => exact News.isList (by k_asm) (by k_mem)); (case k2 => simpa using hSt99z); (case k3 => decide); (case k4 => first | omega | (simp only [] at *; omega))); intro t99z k99z) | with_reducible (k_here; (with_reducible show wpAny _ _ (truthy (Value.ref _)) _ _ _); (with_reducible rename StrsAre _ _ => hSt99z); k_dflt (refine' txt_truthy ?N ?m hSt99z ?z ?_; (case N => k_asm); (case m => k_mem); (case z => first | omega | (simp only [List.length_append, List.length_cons, List.length_nil]; omega)))) | with_reducible (k_here; (with_reducible show wpAny _ _ (subscriptTail _ _ (Value.ref _) (Value.int (-1) _)) _ _ _); (with_reducible rename StrsAre _ _ => hSt99z); k_dflt (refine' txt_last ?N ?m hSt99z ?l ?_ ?z; (case N => k_asm); (case m => k_mem); (case l => with_reducible assumption); (case z => with_unfolding_all rfl)); intro y99z t99z e99z) | with_reducible (k_here; (with_reducible show wpAny _ _ (call (Value.builtin _) [Value.ref _]) _ _ _); (with_reducible rename StrsAre _ _ => hSt99z); k_dflt (refine' txt_pop ?F ?N ?U hSt99z ?l ?z ?_; (case F => k_asm); (case N => k_asm); (case U => k_upd); (case l => assumption); (case z => omega)); intro h9z y9z t9z F9z N9z hI9z) | with_reducible (k_here; (with_reducible show wpAny _ _ (call (Value.builtin "str.split") _) _ _ _); refine KSpl.split1 (by k_asm) (by k_asm) (by decide) ?_ (by (first | exact split_fits (by assumption) | exact split_fits (Nat.le_trans (restOf_le _) (by assumption)))); intro D9z l9z h9z k9z e9z a9z F9z N9z l19z; (try k_lt l19z)) | with_reducible (k_here; (with_reducible show wpAny _ _ (call (Value.ref 273) [Value.str _ _]) _ _ _); k_dflt (refine' Pure.use' (splitroot_c _ _ _ ?kx) ?k1 ?k2 ?k3 ?k4 ?k5 ?kK ?kd ?ku trivial ?_; (case kx => walk_at "my len"); (((case k1 => k_asm); (case k2 => k_asm); (case k3 => k_asm); (case k4 => k_asm); (case k5 => k_asm); (case kK => first | exact rfl | assumption); (case kd => ktr_room); (case ku => ktr_units)))); intro v99z h99z tk99z F99z N99z f99z e99z; (obtain ⟨D99z, t99z, u99z, w99z, e99z, g99z, n99z⟩ := e99z); (cases e99z); (replace N99z := news_fresh f99z N99z g99z n99z); (clear f99z g99z n99z); (try dsimp only); (try k_fold)) | with_reducible (k_here; (with_reducible show wpAny _ _ (call (Value.ref 193) [Value.str _ _]) _ _ _); k_dflt (refine' Pure.use (get_sep_c _ _ _) ?k1 ?k2 ?k3 ?k4 ?k5 ?kK ?kd ?ku trivial ?_; (((case k1 => k_asm); (case k2 => k_asm); (case k3 => k_asm); (case k4 => k_asm); (case k5 => k_asm); (case kK => first | exact rfl | assumption); (case kd => ktr_room); (case ku => ktr_units)))); intro v99z h99z tk99z F99z N99z e99z; (obtain ⟨t99z, e99z⟩ := e99z); (cases e99z); (try dsimp only); (try k_fold)) | with_reducible (k_here; (with_reducible show wpAny _ _ (call (Value.ref 266) [Value.str _ _]) _ _ _); k_dflt (refine' Pure.use (fspath_c _ _ _) ?k1 ?k2 ?k3 ?k4 ?k5 ?kK ?kd ?ku trivial ?_; (((case k1 => k_asm); (case k2 => k_asm); (case k3 => k_asm); (case k4 => k_asm); (case k5 => k_asm); (case kK => first | exact rfl | assumption); (case kd => ktr_room); (case ku => ktr_units)))); intro v99z h99z tk99z F99z N99z e99z; (cases e99z); (try dsimp only); (try k_fold)) | walk1 | (dsimp only; walk1) | (leave1; walk_say "STEP leave1"; try dsimp only))
  unfold Hold
  refine' LCg.ListComp_U (F₀ := by k_asm) ?hc ?h1 ?h2 ?h3 ?h4 ?_ ?h5
  case hc => with_unfolding_all rfl
  case h1 => decide
  case h2 => rfl
  case h3 => decide
  case h4 => rfl
  case h5 => intro _; rfl
  walk1
  rename News _ _ _ _ => nN
  refine LCg.CompSrc.ledger rfl (by k_asm) nN (List.Mem.head _) (by exact Nat.le_of_ble_eq_true rfl) fun g => comp_lists (fun i => allF rows (nameAt i)) _ (fun ls => .inr ⟨_, List.mem_append_right ls (List.Mem.head _), rfl, _, rfl⟩) ?_ ?_
  · intro i v ls I oI C oC D m₂ h tk ys E' hi9 hP hC hx9 F' N' off ne
    obtain ⟨nm, tn, rfl, hnm⟩ := strs_get (ys := namesL) (.cons _ _ (.cons _ _ (.cons _ _ (.cons _ _ (.cons _ _ (.cons _ _ .nil)))))) i v (by simpa using hP)
    have hok := names_ok nm (List.mem_of_getElem? hnm)
    rw [nameAt_of hnm]
    have N2 := news_swap3 N'
    clear N'
    simp only [List.cons_append, List.append_assoc] at N2
    repeat' (first | (k_unfold; (try dsimp only)) | (k_end; wrow_close) | ((fail_if_success (with_reducible show wpAny _ _ _ _ _ _)); dsimp only) | with_reducible (k_here; (with_reducible show wpAny _ _ (call (Value.ref 280) [Value.str _ _]) _ _ _); k_dflt (refine' Pure.use (basename_c _ _ _ ?kx) ?k1 ?k2 ?k3 ?k4 ?k5 ?kK ?kd ?ku trivial ?_; (case kx => walk_at "my len"); (((case k1 => k_asm); (case k2 => k_asm); (case k3 => k_asm); (case k4 => k_asm); (case k5 => k_asm); (case kK => first | exact rfl | assumption); (case kd => ktr_room); (case ku => ktr_units)))); intro v99z h99z tk99z F99z N99z e99z; (obtain ⟨t99z, e99z⟩ := e99z); (cases e99z); (try dsimp only); (try k_fold)) | with_reducible (k_here; (with_reducible show wpAny _ _ (call (Value.ref 287) [Value.str _ _]) _ _ _); k_dflt (refine' Pure.use (normpath_c _ _ _ ?kx) ?k1 ?k2 ?k3 ?k4 ?k5 ?kK ?kd ?ku trivial ?_; (case kx => walk_at "my len"); (((case k1 => k_asm); (case k2 => k_asm); (case k3 => k_asm); (case k4 => k_asm); (case k5 => k_asm); (case kK => first | exact rfl | assumption); (case kd => ktr_room); (case ku => ktr_units)))); intro v99z h99z tk99z F99z N99z e99z; (obtain ⟨t99z, e99z⟩ := e99z); (cases e99z); (try dsimp only); (try k_fold)) | with_reducible (k_here; (with_reducible show wpAny _ _ (call (Value.ref 360) [Value.str (Str.ofString "X") _, Value.str (Str.ofString "a b") _]) _ _ _); k_dflt (refine' PureT.use (refused3 _ _ _) ?k1 ?k2 ?k3 ?k4 ?k5 ?kK ?kd ?ku ?_; (((case k1 => k_asm); (case k2 => k_asm); (case k3 => k_asm); (case k4 => k_asm); (case k5 => k_asm); (case kK => first | exact rfl | assumption); (case kd => ktr_room); (case ku => ktr_units)))); intro v99z h99z tk99z F99z N99z e99z; (cases e99z); (try dsimp only); (try k_fold)) | with_reducible (k_here; (with_reducible show wpAny _ _ (call (Value.ref 360) [Value.str (Str.ofString "X\n") _, Value.str (Str.ofString "a") _]) _ _ _); k_dflt (refine' PureT.use (refused2 _ _ _) ?k1 ?k2 ?k3 ?k4 ?k5 ?kK ?kd ?ku ?_; (((case k1 => k_asm); (case k2 => k_asm); (case k3 => k_asm); (case k4 => k_asm); (case k5 => k_asm); (case kK => first | exact rfl | assumption); (case kd => ktr_room); (case ku => ktr_units)))); intro v99z h99z tk99z F99z N99z e99z; (cases e99z); (try dsimp only); (try k_fold)) | with_reducible (k_here; (with_reducible show wpAny _ _ (call (Value.ref 360) [Value.str (Str.ofString "X") _, Value.str (Str.ofString "a\nb") _]) _ _ _); k_dflt (refine' PureT.use (refused1 _ _ _) ?k1 ?k2 ?k3 ?k4 ?k5 ?kK ?kd ?ku ?_; (((case k1 => k_asm); (case k2 => k_asm); (case k3 => k_asm); (case k4 => k_asm); (case k5 => k_asm); (case kK => first | exact rfl | assumption); (case kd => ktr_room); (case ku => ktr_units)))); intro v99z h99z tk99z F99z N99z e99z; (cases e99z); (try dsimp only); (try k_fold)) | with_reducible (k_here; (with_reducible show wpAny _ _ (call (Value.builtin "len") [Value.ref _]) _ _ _); (rename (List.length _ = List.length _) => hLn99z); k_dflt (refine len_any (by k_asm) (by k_mem) (by omega) ?_); intro t99z k99z) | with_reducible (k_here; (with_reducible show wpAny _ _ (binaryOp Operator.Add (Value.str _ _) (Value.str _ _)) _ _ _); k_dflt (refine addS (by first | exact fit1 (by with_reducible assumption) | exact fit2 (by with_reducible assumption) (by with_reducible assumption) | exact fit3 (by with_reducible assumption) (by with_reducible assumption) | (rw [sizeLine_eq]; (try simp only [Str.length_append]); omega)) ?_); intro t99z k99z hl99z; clear hl99z) | with_reducible (k_here; (with_reducible show wpAny _ _ (call (Value.ref 346) [Value.ref _]) _ _ _); (rename IntsAre _ (List.take 4 _) => hI99z); k_dflt (refine' PureN.use (requests_c _ _ _ 0 _ hI99z ?kl) ?k1 ?k2 ?k3 ?k4 ?k5 ?kK ?kd ?ku ?hs ?_; (case kl => (rw [List.length_take]; omega)); (((case k1 => k_asm); (case k2 => k_asm); (case k3 => k_asm); (case k4 => k_asm); (case k5 => k_asm); (case kK => first | exact rfl | assumption); (case kd => ktr_room); (case ku => ktr_units))); (case hs => exact fun p hp => by rw [List.mem_singleton.mp hp]; k_mem)); intro v99z h99z tk99z F99z N99z e99z; (obtain ⟨D99z, vs99z, n99z, e99z, M99z, S99z⟩ := e99z); (cases e99z); (replace N99z := news_both M99z N99z); (clear M99z); (try simp only [List.cons_append, List.nil_append] at N99z); (try dsimp only); (try k_fold)) | with_reducible (k_here; (with_reducible show wpAny _ _ (call (Value.ref 182) [Value.ref _]) _ _ _); k_dflt (refine' call_cls ?k1 ?k2 ?k3 ?k4 ?k5 ?k6 ?_; (case k1 => k_asm); (case k2 => k_asm); (case k3 => k_asm); (case k4 => k_is); (case k5 => k_is); (case k6 => k_is); k_whole; intro x9z d9z h9z F9z N9z l19z l29z; (try k_lt l19z); (try k_lt2 l29z); (try k_sweep); ((refine' code_def ?k1 ?k2 ?k3 ?k4 ?k5 ?kA ?kF ?kK ?k6 ?k7 ?k8 ?k9 ?kB ?_ ?c2 ?c3 ?c4 ?c5; (((case kA => exact rfl); (case kF => exact rfl); (case kK => first | exact rfl | assumption); (case k1 => k_asm); (case k2 => k_asm); (case k3 => k_asm); (try (case k4 => k_asm)); (case k5 => k_asm); (case k6 => k_is); (case k7 => k_is); (case k8 => ktr_room); (try (case k9 => first | exact BindsTo.of_eq rfl | (refine' kp_binds ?kx ?ke; (case kx => k_in); (case ke => exact fun _ => rfl)))))); (((try (case c5 => decide)); (try (case kB => exact locs rfl)); (case c2 => exact rfl); (case c3 => exact rfl); (case c4 => exact rfl); k_whole)); intro g9z L9z h9z FG9z F9z N9z B9z X9z T9z; (try dsimp only); (try k_lift B9z); (try k_fold))))) | with_reducible (k_here; (with_reducible show wpAny _ _ (call (Value.builtin "dict.get") [Value.ref _, Value.str _ _]) _ _ _); k_dflt (refine site_get (by assumption) ?_ ?_); first | (intro m99z t99z hm99z hm09z hm19z) | (intro hm99z)) | with_reducible (k_here; (with_reducible show wpAny _ _ (getMethod (Value.ref _) (Str.ofString "get") _) _ _ _); k_dflt (refine getMethod_strTab_get (by assumption) ?_)) | with_reducible (k_here; (with_reducible show wpAny _ _ (call (Value.ref 341) _) _ _ _); k_dflt (refine' Pure.use (site_c _) ?k1 ?k2 ?k3 ?k4 ?k5 ?kK ?kd ?ku trivial ?_; (((case k1 => k_asm); (case k2 => k_asm); (case k3 => k_asm); (case k4 => k_asm); (case k5 => k_asm); (case kK => first | exact rfl | assumption); (case kd => ktr_room); (case ku => ktr_units)))); intro v99z h99z tk99z F99z N99z e99z; (obtain ⟨D99z, e99z, n99z, T99z⟩ := e99z); (cases e99z); (clear n99z); (try dsimp only); (try k_fold)) | with_reducible (k_here; (with_reducible show wpAny _ _ (call (Value.ref 294) [Value.int _ _]) _ _ _); k_dflt (refine' Pure.use (ifmt_c _ _ _) ?k1 ?k2 ?k3 ?k4 ?k5 ?kK ?kd ?ku trivial ?_; (((case k1 => k_asm); (case k2 => k_asm); (case k3 => k_asm); (case k4 => k_asm); (case k5 => k_asm); (case kK => first | exact rfl | assumption); (case kd => ktr_room); (case ku => ktr_units)))); intro v99z h99z tk99z F99z N99z e99z; (obtain ⟨t99z, e99z⟩ := e99z); (cases e99z); (try dsimp only); (try k_fold)) | with_reducible (k_here; (with_reducible show wpAny _ _ (call (Value.ref 83) [Value.ref _, Value.str _ _] _) _ _ _); k_dflt (refine' PureK.use (conv_c _ _ _ _ _ ?kx ?kp) ?k1 ?k2 ?k3 ?k4 ?k5 ?kK ?kd ?ku trivial ?_; (case kx => walk_at "my len"); (case kp => walk_at "my print"); (((case k1 => k_asm); (case k2 => k_asm); (case k3 => k_asm); (case k4 => k_asm); (case k5 => k_asm); (case kK => first | exact rfl | assumption); (case kd => ktr_room); (case ku => ktr_units)))); intro v99z h99z tk99z F99z N99z e99z; (cases e99z); (try dsimp only); (try k_fold)) | with_reducible (k_here; (with_reducible show wpAny _ _ (call (Value.builtin "re.Pattern.search") [Value.ref 53, Value.str _ _]) _ _ _); k_dflt (refine' re_search (code := valueCode) ?k1 ?k2 ?k3 ?k4 ?k5 ?k6 ?k7 ?_; (case k1 => k_asm); (case k2 => k_asm); (case k3 => k_is); (case k4 => k_is); (case k5 => decide +kernel); (case k6 => assumption); (case k7 => exact value_fails (by assumption)))) | with_reducible (k_here; (with_reducible show wpAny _ _ (call (Value.builtin "re.Pattern.search") [Value.ref 48, Value.str _ _]) _ _ _); k_dflt (refine' re_search (code := nameCode) ?k1 ?k2 ?k3 ?k4 ?k5 ?k6 ?k7 ?_; (case k1 => k_asm); (case k2 => k_asm); (case k3 => k_is); (case k4 => k_is); (case k5 => decide +kernel); (case k6 => assumption); (case k7 => exact name_fails (by assumption)))) | with_reducible (k_here; (with_reducible show wpAny _ _ (getMethod (Value.ref _) (Str.ofString "search") _) _ _ _); k_dflt (refine' re_method ?k1 ?k2 ?k3 ?_; (case k1 => k_asm); (case k2 => k_asm); (case k3 => k_is))) | with_reducible (k_here; (with_reducible show wpAny _ _ (call (Value.builtin "str.join") [Value.str _ _, Value.ref _]) _ _ _); (with_reducible rename StrsAre _ _ => hSt99z); k_dflt (refine' join_listW (ys := ?ys) ?k1 ?k2 ?k3 ?k4 ?_; (case k1 => exact News.isList (by k_asm) (by k_mem)); (case k2 => simpa using hSt99z); (case k3 => decide); (case k4 => first | omega | (simp only [] at *; omega))); intro t99z k99z) | with_reducible (k_here; (with_reducible show wpAny _ _ (truthy (Value.ref _)) _ _ _); (with_reducible rename StrsAre _ _ => hSt99z); k_dflt (refine' txt_truthy ?N ?m hSt99z ?z ?_; (case N => k_asm); (case m => k_mem); (case z => first | omega | (simp only [List.length_append, List.length_cons, List.length_nil]; omega)))) | with_reducible (k_here; (with_reducible show wpAny _ _ (subscriptTail _ _ (Value.ref _) (Value.int (-1) _)) _ _ _); (with_reducible rename StrsAre _ _ => hSt99z); k_dflt (refine' txt_last ?N ?m hSt99z ?l ?_ ?z; (case N => k_asm); (case m => k_mem); (case l => with_reducible assumption); (case z => with_unfolding_all rfl)); intro y99z t99z e99z) | with_reducible (k_here; (with_reducible show wpAny _ _ (call (Value.builtin _) [Value.ref _]) _ _ _); (with_reducible rename StrsAre _ _ => hSt99z); k_dflt (refine' txt_pop ?F ?N ?U hSt99z ?l ?z ?_; (case F => k_asm); (case N => k_asm); (case U => k_upd); (case l => assumption); (case z => omega)); intro h9z y9z t9z F9z N9z hI9z) | with_reducible (k_here; (with_reducible show wpAny _ _ (call (Value.builtin "str.split") _) _ _ _); refine KSpl.split1 (by k_asm) (by k_asm) (by decide) ?_ (by (first | exact split_fits (by assumption) | exact split_fits (Nat.le_trans (restOf_le _) (by assumption)))); intro D9z l9z h9z k9z e9z a9z F9z N9z l19z; (try k_lt l19z)) | with_reducible (k_here; (with_reducible show wpAny _ _ (call (Value.ref 273) [Value.str _ _]) _ _ _); k_dflt (refine' Pure.use' (splitroot_c _ _ _ ?kx) ?k1 ?k2 ?k3 ?k4 ?k5 ?kK ?kd ?ku trivial ?_; (case kx => walk_at "my len"); (((case k1 => k_asm); (case k2 => k_asm); (case k3 => k_asm); (case k4 => k_asm); (case k5 => k_asm); (case kK => first | exact rfl | assumption); (case kd => ktr_room); (case ku => ktr_units)))); intro v99z h99z tk99z F99z N99z f99z e99z; (obtain ⟨D99z, t99z, u99z, w99z, e99z, g99z, n99z⟩ := e99z); (cases e99z); (replace N99z := news_fresh f99z N99z g99z n99z); (clear f99z g99z n99z); (try dsimp only); (try k_fold)) | with_reducible (k_here; (with_reducible show wpAny _ _ (call (Value.ref 193) [Value.str _ _]) _ _ _); k_dflt (refine' Pure.use (get_sep_c _ _ _) ?k1 ?k2 ?k3 ?k4 ?k5 ?kK ?kd ?ku trivial ?_; (((case k1 => k_asm); (case k2 => k_asm); (case k3 => k_asm); (case k4 => k_asm); (case k5 => k_asm); (case kK => first | exact rfl | assumption); (case kd => ktr_room); (case ku => ktr_units)))); intro v99z h99z tk99z F99z N99z e99z; (obtain ⟨t99z, e99z⟩ := e99z); (cases e99z); (try dsimp only); (try k_fold)) | with_reducible (k_here; (with_reducible show wpAny _ _ (call (Value.ref 266) [Value.str _ _]) _ _ _); k_dflt (refine' Pure.use (fspath_c _ _ _) ?k1 ?k2 ?k3 ?k4 ?k5 ?kK ?kd ?ku trivial ?_; (((case k1 => k_asm); (case k2 => k_asm); (case k3 => k_asm); (case k4 => k_asm); (case k5 => k_asm); (case kK => first | exact rfl | assumption); (case kd => ktr_room); (case ku => ktr_units)))); intro v99z h99z tk99z F99z N99z e99z; (cases e99z); (try dsimp only); (try k_fold)) | walk1 | (dsimp only; walk1) | (leave1; walk_say "STEP leave1"; try dsimp only))
    unfold Hold
    rename News _ _ _ _ => nN2
    k_dflt (refine' PureM.use (getall_c _ _ _ _ us _ core _ rows nm _ hI9 rowsn (fun p hp => ⟨(rowsok p hp).1, (rowsok p hp).2.1⟩) hok.1 hok.2.1 hok.2.2) ?k1 ?k2 ?k3 ?k4 ?k5 ?kK ?kd ?ku ?hs ?_; (((case k1 => k_asm); (case k2 => k_asm); (case k3 => k_asm); (case k4 => k_asm); (case k5 => k_asm); (case kK => first | exact rfl | assumption); (case kd => ktr_room); (case ku => ktr_units))); (case hs => exact List.forall_mem_cons.mpr ⟨by k_mem, List.forall_mem_cons.mpr ⟨by k_mem, List.forall_mem_cons.mpr ⟨by k_mem, fun p hp => by repeat (first | exact List.mem_append_left _ hp | refine List.Mem.tail _ ?_)⟩⟩⟩))
    intro v9 h9 tk9 F9 N9 e9 N8
    obtain ⟨D9, ys9, e9, hD9, M9, hy9⟩ := e9
    cases e9
    (try dsimp only)
    refine list_post (by assumption) (by simp only [List.cons_append, List.append_assoc]; exact N9) (by simp only [List.cons_append, List.append_assoc]; exact N8) hD9 M9 hy9
  intro ls zs hzs D8 h8 tk8 F8 N8 o8
  have N2 := news_swap1 N8
  clear N8 o8 nN
  simp only [List.cons_append, List.append_assoc] at N2
  repeat' (first | (k_unfold; (try dsimp only)) | (k_end; wrow_close) | ((fail_if_success (with_reducible show wpAny _ _ _ _ _ _)); dsimp only) | with_reducible (k_here; (with_reducible show wpAny _ _ (call (Value.ref 280) [Value.str _ _]) _ _ _); k_dflt (refine' Pure.use (basename_c _ _ _ ?kx) ?k1 ?k2 ?k3 ?k4 ?k5 ?kK ?kd ?ku trivial ?_; (case kx => walk_at "my len"); (((case k1 => k_asm); (case k2 => k_asm); (case k3 => k_asm); (case k4 => k_asm); (case k5 => k_asm); (case kK => first | exact rfl | assumption); (case kd => ktr_room); (case ku => ktr_units)))); intro v99z h99z tk99z F99z N99z e99z; (obtain ⟨t99z, e99z⟩ := e99z); (cases e99z); (try dsimp only); (try k_fold)) | with_reducible (k_here; (with_reducible show wpAny _ _ (call (Value.ref 287) [Value.str _ _]) _ _ _); k_dflt (refine' Pure.use (normpath_c _ _ _ ?kx) ?k1 ?k2 ?k3 ?k4 ?k5 ?kK ?kd ?ku trivial ?_; (case kx => walk_at "my len"); (((case k1 => k_asm); (case k2 => k_asm); (case k3 => k_asm); (case k4 => k_asm); (case k5 => k_asm); (case kK => first | exact rfl | assumption); (case kd => ktr_room); (case ku => ktr_units)))); intro v99z h99z tk99z F99z N99z e99z; (obtain ⟨t99z, e99z⟩ := e99z); (cases e99z); (try dsimp only); (try k_fold)) | with_reducible (k_here; (with_reducible show wpAny _ _ (call (Value.ref 360) [Value.str (Str.ofString "X") _, Value.str (Str.ofString "a b") _]) _ _ _); k_dflt (refine' PureT.use (refused3 _ _ _) ?k1 ?k2 ?k3 ?k4 ?k5 ?kK ?kd ?ku ?_; (((case k1 => k_asm); (case k2 => k_asm); (case k3 => k_asm); (case k4 => k_asm); (case k5 => k_asm); (case kK => first | exact rfl | assumption); (case kd => ktr_room); (case ku => ktr_units)))); intro v99z h99z tk99z F99z N99z e99z; (cases e99z); (try dsimp only); (try k_fold)) | with_reducible (k_here; (with_reducible show wpAny _ _ (call (Value.ref 360) [Value.str (Str.ofString "X\n") _, Value.str (Str.ofString "a") _]) _ _ _); k_dflt (refine' PureT.use (refused2 _ _ _) ?k1 ?k2 ?k3 ?k4 ?k5 ?kK ?kd ?ku ?_; (((case k1 => k_asm); (case k2 => k_asm); (case k3 => k_asm); (case k4 => k_asm); (case k5 => k_asm); (case kK => first | exact rfl | assumption); (case kd => ktr_room); (case ku => ktr_units)))); intro v99z h99z tk99z F99z N99z e99z; (cases e99z); (try dsimp only); (try k_fold)) | with_reducible (k_here; (with_reducible show wpAny _ _ (call (Value.ref 360) [Value.str (Str.ofString "X") _, Value.str (Str.ofString "a\nb") _]) _ _ _); k_dflt (refine' PureT.use (refused1 _ _ _) ?k1 ?k2 ?k3 ?k4 ?k5 ?kK ?kd ?ku ?_; (((case k1 => k_asm); (case k2 => k_asm); (case k3 => k_asm); (case k4 => k_asm); (case k5 => k_asm); (case kK => first | exact rfl | assumption); (case kd => ktr_room); (case ku => ktr_units)))); intro v99z h99z tk99z F99z N99z e99z; (cases e99z); (try dsimp only); (try k_fold)) | with_reducible (k_here; (with_reducible show wpAny _ _ (call (Value.builtin "len") [Value.ref _]) _ _ _); (rename (List.length _ = List.length _) => hLn99z); k_dflt (refine len_any (by k_asm) (by k_mem) (by omega) ?_); intro t99z k99z) | with_reducible (k_here; (with_reducible show wpAny _ _ (binaryOp Operator.Add (Value.str _ _) (Value.str _ _)) _ _ _); k_dflt (refine addS (by first | exact fit1 (by with_reducible assumption) | exact fit2 (by with_reducible assumption) (by with_reducible assumption) | exact fit3 (by with_reducible assumption) (by with_reducible assumption) | (rw [sizeLine_eq]; (try simp only [Str.length_append]); omega)) ?_); intro t99z k99z hl99z; clear hl99z) | with_reducible (k_here; (with_reducible show wpAny _ _ (call (Value.ref 346) [Value.ref _]) _ _ _); (rename IntsAre _ (List.take 4 _) => hI99z); k_dflt (refine' PureN.use (requests_c _ _ _ 0 _ hI99z ?kl) ?k1 ?k2 ?k3 ?k4 ?k5 ?kK ?kd ?ku ?hs ?_; (case kl => (rw [List.length_take]; omega)); (((case k1 => k_asm); (case k2 => k_asm); (case k3 => k_asm); (case k4 => k_asm); (case k5 => k_asm); (case kK => first | exact rfl | assumption); (case kd => ktr_room); (case ku => ktr_units))); (case hs => exact fun p hp => by rw [List.mem_singleton.mp hp]; k_mem)); intro v99z h99z tk99z F99z N99z e99z; (obtain ⟨D99z, vs99z, n99z, e99z, M99z, S99z⟩ := e99z); (cases e99z); (replace N99z := news_both M99z N99z); (clear M99z); (try simp only [List.cons_append, List.nil_append] at N99z); (try dsimp only); (try k_fold)) | with_reducible (k_here; (with_reducible show wpAny _ _ (call (Value.ref 182) [Value.ref _]) _ _ _); k_dflt (refine' call_cls ?k1 ?k2 ?k3 ?k4 ?k5 ?k6 ?_; (case k1 => k_asm); (case k2 => k_asm); (case k3 => k_asm); (case k4 => k_is); (case k5 => k_is); (case k6 => k_is); k_whole; intro x9z d9z h9z F9z N9z l19z l29z; (try k_lt l19z); (try k_lt2 l29z); (try k_sweep); ((refine' code_def ?k1 ?k2 ?k3 ?k4 ?k5 ?kA ?kF ?kK ?k6 ?k7 ?k8 ?k9 ?kB ?_ ?c2 ?c3 ?c4 ?c5; (((case kA => exact rfl); (case kF => exact rfl); (case kK => first | exact rfl | assumption); (case k1 => k_asm); (case k2 => k_asm); (case k3 => k_asm); (try (case k4 => k_asm)); (case k5 => k_asm); (case k6 => k_is); (case k7 => k_is); (case k8 => ktr_room); (try (case k9 => first | exact BindsTo.of_eq rfl | (refine' kp_binds ?kx ?ke; (case kx => k_in); (case ke => exact fun _ => rfl)))))); (((try (case c5 => decide)); (try (case kB => exact locs rfl)); (case c2 => exact rfl); (case c3 => exact rfl); (case c4 => exact rfl); k_whole)); intro g9z L9z h9z FG9z F9z N9z B9z X9z T9z; (try dsimp only); (try k_lift B9z); (try k_fold))))) | with_reducible (k_here; (with_reducible show wpAny _ _ (call (Value.builtin "dict.get") [Value.ref _, Value.str _ _]) _ _ _); k_dflt (refine site_get (by assumption) ?_ ?_); first | (intro m99z t99z hm99z hm09z hm19z) | (intro hm99z)) | with_reducible (k_here; (with_reducible show wpAny _ _ (getMethod (Value.ref _) (Str.ofString "get") _) _ _ _); k_dflt (refine getMethod_strTab_get (by assumption) ?_)) | with_reducible (k_here; (with_reducible show wpAny _ _ (call (Value.ref 341) _) _ _ _); k_dflt (refine' Pure.use (site_c _) ?k1 ?k2 ?k3 ?k4 ?k5 ?kK ?kd ?ku trivial ?_; (((case k1 => k_asm); (case k2 => k_asm); (case k3 => k_asm); (case k4 => k_asm); (case k5 => k_asm); (case kK => first | exact rfl | assumption); (case kd => ktr_room); (case ku => ktr_units)))); intro v99z h99z tk99z F99z N99z e99z; (obtain ⟨D99z, e99z, n99z, T99z⟩ := e99z); (cases e99z); (clear n99z); (try dsimp only); (try k_fold)) | with_reducible (k_here; (with_reducible show wpAny _ _ (call (Value.ref 294) [Value.int _ _]) _ _ _); k_dflt (refine' Pure.use (ifmt_c _ _ _) ?k1 ?k2 ?k3 ?k4 ?k5 ?kK ?kd ?ku trivial ?_; (((case k1 => k_asm); (case k2 => k_asm); (case k3 => k_asm); (case k4 => k_asm); (case k5 => k_asm); (case kK => first | exact rfl | assumption); (case kd => ktr_room); (case ku => ktr_units)))); intro v99z h99z tk99z F99z N99z e99z; (obtain ⟨t99z, e99z⟩ := e99z); (cases e99z); (try dsimp only); (try k_fold)) | with_reducible (k_here; (with_reducible show wpAny _ _ (call (Value.ref 83) [Value.ref _, Value.str _ _] _) _ _ _); k_dflt (refine' PureK.use (conv_c _ _ _ _ _ ?kx ?kp) ?k1 ?k2 ?k3 ?k4 ?k5 ?kK ?kd ?ku trivial ?_; (case kx => walk_at "my len"); (case kp => walk_at "my print"); (((case k1 => k_asm); (case k2 => k_asm); (case k3 => k_asm); (case k4 => k_asm); (case k5 => k_asm); (case kK => first | exact rfl | assumption); (case kd => ktr_room); (case ku => ktr_units)))); intro v99z h99z tk99z F99z N99z e99z; (cases e99z); (try dsimp only); (try k_fold)) | with_reducible (k_here; (with_reducible show wpAny _ _ (call (Value.builtin "re.Pattern.search") [Value.ref 53, Value.str _ _]) _ _ _); k_dflt (refine' re_search (code := valueCode) ?k1 ?k2 ?k3 ?k4 ?k5 ?k6 ?k7 ?_; (case k1 => k_asm); (case k2 => k_asm); (case k3 => k_is); (case k4 => k_is); (case k5 => decide +kernel); (case k6 => assumption); (case k7 => exact value_fails (by assumption)))) | with_reducible (k_here; (with_reducible show wpAny _ _ (call (Value.builtin "re.Pattern.search") [Value.ref 48, Value.str _ _]) _ _ _); k_dflt (refine' re_search (code := nameCode) ?k1 ?k2 ?k3 ?k4 ?k5 ?k6 ?k7 ?_; (case k1 => k_asm); (case k2 => k_asm); (case k3 => k_is); (case k4 => k_is); (case k5 => decide +kernel); (case k6 => assumption); (case k7 => exact name_fails (by assumption)))) | with_reducible (k_here; (with_reducible show wpAny _ _ (getMethod (Value.ref _) (Str.ofString "search") _) _ _ _); k_dflt (refine' re_method ?k1 ?k2 ?k3 ?_; (case k1 => k_asm); (case k2 => k_asm); (case k3 => k_is))) | with_reducible (k_here; (with_reducible show wpAny _ _ (call (Value.builtin "str.join") [Value.str _ _, Value.ref _]) _ _ _); (with_reducible rename StrsAre _ _ => hSt99z); k_dflt (refine' join_listW (ys := ?ys) ?k1 ?k2 ?k3 ?k4 ?_; (case k1 => exact News.isList (by k_asm) (by k_mem)); (case k2 => simpa using hSt99z); (case k3 => decide); (case k4 => first | omega | (simp only [] at *; omega))); intro t99z k99z) | with_reducible (k_here; (with_reducible show wpAny _ _ (truthy (Value.ref _)) _ _ _); (with_reducible rename StrsAre _ _ => hSt99z); k_dflt (refine' txt_truthy ?N ?m hSt99z ?z ?_; (case N => k_asm); (case m => k_mem); (case z => first | omega | (simp only [List.length_append, List.length_cons, List.length_nil]; omega)))) | with_reducible (k_here; (with_reducible show wpAny _ _ (subscriptTail _ _ (Value.ref _) (Value.int (-1) _)) _ _ _); (with_reducible rename StrsAre _ _ => hSt99z); k_dflt (refine' txt_last ?N ?m hSt99z ?l ?_ ?z; (case N => k_asm); (case m => k_mem); (case l => with_reducible assumption); (case z => with_unfolding_all rfl)); intro y99z t99z e99z) | with_reducible (k_here; (with_reducible show wpAny _ _ (call (Value.builtin _) [Value.ref _]) _ _ _); (with_reducible rename StrsAre _ _ => hSt99z); k_dflt (refine' txt_pop ?F ?N ?U hSt99z ?l ?z ?_; (case F => k_asm); (case N => k_asm); (case U => k_upd); (case l => assumption); (case z => omega)); intro h9z y9z t9z F9z N9z hI9z) | with_reducible (k_here; (with_reducible show wpAny _ _ (call (Value.builtin "str.split") _) _ _ _); refine KSpl.split1 (by k_asm) (by k_asm) (by decide) ?_ (by (first | exact split_fits (by assumption) | exact split_fits (Nat.le_trans (restOf_le _) (by assumption)))); intro D9z l9z h9z k9z e9z a9z F9z N9z l19z; (try k_lt l19z)) | with_reducible (k_here; (with_reducible show wpAny _ _ (call (Value.ref 273) [Value.str _ _]) _ _ _); k_dflt (refine' Pure.use' (splitroot_c _ _ _ ?kx) ?k1 ?k2 ?k3 ?k4 ?k5 ?kK ?kd ?ku trivial ?_; (case kx => walk_at "my len"); (((case k1 => k_asm); (case k2 => k_asm); (case k3 => k_asm); (case k4 => k_asm); (case k5 => k_asm); (case kK => first | exact rfl | assumption); (case kd => ktr_room); (case ku => ktr_units)))); intro v99z h99z tk99z F99z N99z f99z e99z; (obtain ⟨D99z, t99z, u99z, w99z, e99z, g99z, n99z⟩ := e99z); (cases e99z); (replace N99z := news_fresh f99z N99z g99z n99z); (clear f99z g99z n99z); (try dsimp only); (try k_fold)) | with_reducible (k_here; (with_reducible show wpAny _ _ (call (Value.ref 193) [Value.str _ _]) _ _ _); k_dflt (refine' Pure.use (get_sep_c _ _ _) ?k1 ?k2 ?k3 ?k4 ?k5 ?kK ?kd ?ku trivial ?_; (((case k1 => k_asm); (case k2 => k_asm); (case k3 => k_asm); (case k4 => k_asm); (case k5 => k_asm); (case kK => first | exact rfl | assumption); (case kd => ktr_room); (case ku => ktr_units)))); intro v99z h99z tk99z F99z N99z e99z; (obtain ⟨t99z, e99z⟩ := e99z); (cases e99z); (try dsimp only); (try k_fold)) | with_reducible (k_here; (with_reducible show wpAny _ _ (call (Value.ref 266) [Value.str _ _]) _ _ _); k_dflt (refine' Pure.use (fspath_c _ _ _) ?k1 ?k2 ?k3 ?k4 ?k5 ?kK ?kd ?ku trivial ?_; (((case k1 => k_asm); (case k2 => k_asm); (case k3 => k_asm); (case k4 => k_asm); (case k5 => k_asm); (case kK => first | exact rfl | assumption); (case kd => ktr_room); (case ku => ktr_units)))); intro v99z h99z tk99z F99z N99z e99z; (cases e99z); (try dsimp only); (try k_fold)) | walk1 | (dsimp only; walk1) | (leave1; walk_say "STEP leave1"; try dsimp only))
  unfold Hold
  refine' ListComp_A (by k_asm) ?hc ?hn ?hk ?hnm ?hx ?hh ?_ ?hs
  case hc => with_unfolding_all rfl
  case hn => rfl
  case hk => rfl
  case hnm => decide
  case hx => with_unfolding_all rfl
  case hh => rfl
  case hs => intro _; rfl
  walk1
  rename News _ _ _ _ => nN
  refine srcA_lists (fun i => allF rows (nameAt i)) (by k_asm) nN (by k_mem) (by exact Nat.le_of_ble_eq_true rfl) ?_ ?_
  · intro i v ls9 ys I oI C oC c oc D h tk E' hP hoc F' N'
    obtain ⟨nm, tn, rfl, hnm⟩ := strs_get (ys := namesL) (.cons _ _ (.cons _ _ (.cons _ _ (.cons _ _ (.cons _ _ (.cons _ _ .nil)))))) i v (by simpa using hP)
    have hok := names_ok nm (List.mem_of_getElem? hnm)
    rw [nameAt_of hnm]
    have N3 := news_swap4 N'
    simp only [List.cons_append, List.append_assoc] at N3
    k_here
    refine' ListComp_PT (by k_asm) ?hc ?h1 ?h2 ?h3 ?h4 ?h5 ?h6 ?hh ?_ ?hs
    case hc => with_unfolding_all rfl
    case h1 => decide
    case h2 => rfl
    case h3 => decide
    case h4 => rfl
    case h5 => rfl
    case h6 => decide
    case hh => rfl
    case hs => intro _; rfl
    walk1
    refine srcPT_rows (fun p => if Txt.lower p.1 = Txt.lower nm then some p.2 else none) hJ9 (fun p hp => by repeat (first | exact List.mem_append_right _ (List.mem_append_left _ hp) | refine List.Mem.tail _ ?_)) (by k_asm) N3 (by k_mem) (by omega) ?_ ?_
    · intro a b t u I2 oI2 C2 oC2 D2 m₂ h2 tk2 ys2 E2 hab hC2 hx hx2 F2 N2 off2
      obtain ⟨hal, hbl, _⟩ := rowsok _ hab
      dsimp only at hal hbl
      repeat' (first | (k_unfold; (try dsimp only)) | (k_end; wrow_close) | ((fail_if_success (with_reducible show wpAny _ _ _ _ _ _)); dsimp only) | with_reducible (k_here; (with_reducible show wpAny _ _ (call (Value.ref 280) [Value.str _ _]) _ _ _); k_dflt (refine' Pure.use (basename_c _ _ _ ?kx) ?k1 ?k2 ?k3 ?k4 ?k5 ?kK ?kd ?ku trivial ?_; (case kx => walk_at "my len"); (((case k1 => k_asm); (case k2 => k_asm); (case k3 => k_asm); (case k4 => k_asm); (case k5 => k_asm); (case kK => first | exact rfl | assumption); (case kd => ktr_room); (case ku => ktr_units)))); intro v99z h99z tk99z F99z N99z e99z; (obtain ⟨t99z, e99z⟩ := e99z); (cases e99z); (try dsimp only); (try k_fold)) | with_reducible (k_here; (with_reducible show wpAny _ _ (call (Value.ref 287) [Value.str _ _]) _ _ _); k_dflt (refine' Pure.use (normpath_c _ _ _ ?kx) ?k1 ?k2 ?k3 ?k4 ?k5 ?kK ?kd ?ku trivial ?_; (case kx => walk_at "my len"); (((case k1 => k_asm); (case k2 => k_asm); (case k3 => k_asm); (case k4 => k_asm); (case k5 => k_asm); (case kK => first | exact rfl | assumption); (case kd => ktr_room); (case ku => ktr_units)))); intro v99z h99z tk99z F99z N99z e99z; (obtain ⟨t99z, e99z⟩ := e99z); (cases e99z); (try dsimp only); (try k_fold)) | with_reducible (k_here; (with_reducible show wpAny _ _ (call (Value.ref 360) [Value.str (Str.ofString "X") _, Value.str (Str.ofString "a b") _]) _ _ _); k_dflt (refine' PureT.use (refused3 _ _ _) ?k1 ?k2 ?k3 ?k4 ?k5 ?kK ?kd ?ku ?_; (((case k1 => k_asm); (case k2 => k_asm); (case k3 => k_asm); (case k4 => k_asm); (case k5 => k_asm); (case kK => first | exact rfl | assumption); (case kd => ktr_room); (case ku => ktr_units)))); intro v99z h99z tk99z F99z N99z e99z; (cases e99z); (try dsimp only); (try k_fold)) | with_reducible (k_here; (with_reducible show wpAny _ _ (call (Value.ref 360) [Value.str (Str.ofString "X\n") _, Value.str (Str.ofString "a") _]) _ _ _); k_dflt (refine' PureT.use (refused2 _ _ _) ?k1 ?k2 ?k3 ?k4 ?k5 ?kK ?kd ?ku ?_; (((case k1 => k_asm); (case k2 => k_asm); (case k3 => k_asm); (case k4 => k_asm); (case k5 => k_asm); (case kK => first | exact rfl | assumption); (case kd => ktr_room); (case ku => ktr_units)))); intro v99z h99z tk99z F99z N99z e99z; (cases e99z); (try dsimp only); (try k_fold)) | with_reducible (k_here; (with_reducible show wpAny _ _ (call (Value.ref 360) [Value.str (Str.ofString "X") _, Value.str (Str.ofString "a\nb") _]) _ _ _); k_dflt (refine' PureT.use (refused1 _ _ _) ?k1 ?k2 ?k3 ?k4 ?k5 ?kK ?kd ?ku ?_; (((case k1 => k_asm); (case k2 => k_asm); (case k3 => k_asm); (case k4 => k_asm); (case k5 => k_asm); (case kK => first | exact rfl | assumption); (case kd => ktr_room); (case ku => ktr_units)))); intro v99z h99z tk99z F99z N99z e99z; (cases e99z); (try dsimp only); (try k_fold)) | with_reducible (k_here; (with_reducible show wpAny _ _ (call (Value.builtin "len") [Value.ref _]) _ _ _); (rename (List.length _ = List.length _) => hLn99z); k_dflt (refine len_any (by k_asm) (by k_mem) (by omega) ?_); intro t99z k99z) | with_reducible (k_here; (with_reducible show wpAny _ _ (binaryOp Operator.Add (Value.str _ _) (Value.str _ _)) _ _ _); k_dflt (refine addS (by first | exact fit1 (by with_reducible assumption) | exact fit2 (by with_reducible assumption) (by with_reducible assumption) | exact fit3 (by with_reducible assumption) (by with_reducible assumption) | (rw [sizeLine_eq]; (try simp only [Str.length_append]); omega)) ?_); intro t99z k99z hl99z; clear hl99z) | with_reducible (k_here; (with_reducible show wpAny _ _ (call (Value.ref 346) [Value.ref _]) _ _ _); (rename IntsAre _ (List.take 4 _) => hI99z); k_dflt (refine' PureN.use (requests_c _ _ _ 0 _ hI99z ?kl) ?k1 ?k2 ?k3 ?k4 ?k5 ?kK ?kd ?ku ?hs ?_; (case kl => (rw [List.length_take]; omega)); (((case k1 => k_asm); (case k2 => k_asm); (case k3 => k_asm); (case k4 => k_asm); (case k5 => k_asm); (case kK => first | exact rfl | assumption); (case kd => ktr_room); (case ku => ktr_units))); (case hs => exact fun p hp => by rw [List.mem_singleton.mp hp]; k_mem)); intro v99z h99z tk99z F99z N99z e99z; (obtain ⟨D99z, vs99z, n99z, e99z, M99z, S99z⟩ := e99z); (cases e99z); (replace N99z := news_both M99z N99z); (clear M99z); (try simp only [List.cons_append, List.nil_append] at N99z); (try dsimp only); (try k_fold)) | with_reducible (k_here; (with_reducible show wpAny _ _ (call (Value.ref 182) [Value.ref _]) _ _ _); k_dflt (refine' call_cls ?k1 ?k2 ?k3 ?k4 ?k5 ?k6 ?_; (case k1 => k_asm); (case k2 => k_asm); (case k3 => k_asm); (case k4 => k_is); (case k5 => k_is); (case k6 => k_is); k_whole; intro x9z d9z h9z F9z N9z l19z l29z; (try k_lt l19z); (try k_lt2 l29z); (try k_sweep); ((refine' code_def ?k1 ?k2 ?k3 ?k4 ?k5 ?kA ?kF ?kK ?k6 ?k7 ?k8 ?k9 ?kB ?_ ?c2 ?c3 ?c4 ?c5; (((case kA => exact rfl); (case kF => exact rfl); (case kK => first | exact rfl | assumption); (case k1 => k_asm); (case k2 => k_asm); (case k3 => k_asm); (try (case k4 => k_asm)); (case k5 => k_asm); (case k6 => k_is); (case k7 => k_is); (case k8 => ktr_room); (try (case k9 => first | exact BindsTo.of_eq rfl | (refine' kp_binds ?kx ?ke; (case kx => k_in); (case ke => exact fun _ => rfl)))))); (((try (case c5 => decide)); (try (case kB => exact locs rfl)); (case c2 => exact rfl); (case c3 => exact rfl); (case c4 => exact rfl); k_whole)); intro g9z L9z h9z FG9z F9z N9z B9z X9z T9z; (try dsimp only); (try k_lift B9z); (try k_fold))))) | with_reducible (k_here; (with_reducible show wpAny _ _ (call (Value.builtin "dict.get") [Value.ref _, Value.str _ _]) _ _ _); k_dflt (refine site_get (by assumption) ?_ ?_); first | (intro m99z t99z hm99z hm09z hm19z) | (intro hm99z)) | with_reducible (k_here; (with_reducible show wpAny _ _ (getMethod (Value.ref _) (Str.ofString "get") _) _ _ _); k_dflt (refine getMethod_strTab_get (by assumption) ?_)) | with_reducible (k_here; (with_reducible show wpAny _ _ (call (Value.ref 341) _) _ _ _); k_dflt (refine' Pure.use (site_c _) ?k1 ?k2 ?k3 ?k4 ?k5 ?kK ?kd ?ku trivial ?_; (((case k1 => k_asm); (case k2 => k_asm); (case k3 => k_asm); (case k4 => k_asm); (case k5 => k_asm); (case kK => first | exact rfl | assumption); (case kd => ktr_room); (case ku => ktr_units)))); intro v99z h99z tk99z F99z N99z e99z; (obtain ⟨D99z, e99z, n99z, T99z⟩ := e99z); (cases e99z); (clear n99z); (try dsimp only); (try k_fold)) | with_reducible (k_here; (with_reducible show wpAny _ _ (call (Value.ref 294) [Value.int _ _]) _ _ _); k_dflt (refine' Pure.use (ifmt_c _ _ _) ?k1 ?k2 ?k3 ?k4 ?k5 ?kK ?kd ?ku trivial ?_; (((case k1 => k_asm); (case k2 => k_asm); (case k3 => k_asm); (case k4 => k_asm); (case k5 => k_asm); (case kK => first | exact rfl | assumption); (case kd => ktr_room); (case ku => ktr_units)))); intro v99z h99z tk99z F99z N99z e99z; (obtain ⟨t99z, e99z⟩ := e99z); (cases e99z); (try dsimp only); (try k_fold)) | with_reducible (k_here; (with_reducible show wpAny _ _ (call (Value.ref 83) [Value.ref _, Value.str _ _] _) _ _ _); k_dflt (refine' PureK.use (conv_c _ _ _ _ _ ?kx ?kp) ?k1 ?k2 ?k3 ?k4 ?k5 ?kK ?kd ?ku trivial ?_; (case kx => walk_at "my len"); (case kp => walk_at "my print"); (((case k1 => k_asm); (case k2 => k_asm); (case k3 => k_asm); (case k4 => k_asm); (case k5 => k_asm); (case kK => first | exact rfl | assumption); (case kd => ktr_room); (case ku => ktr_units)))); intro v99z h99z tk99z F99z N99z e99z; (cases e99z); (try dsimp only); (try k_fold)) | with_reducible (k_here; (with_reducible show wpAny _ _ (call (Value.builtin "re.Pattern.search") [Value.ref 53, Value.str _ _]) _ _ _); k_dflt (refine' re_search (code := valueCode) ?k1 ?k2 ?k3 ?k4 ?k5 ?k6 ?k7 ?_; (case k1 => k_asm); (case k2 => k_asm); (case k3 => k_is); (case k4 => k_is); (case k5 => decide +kernel); (case k6 => assumption); (case k7 => exact value_fails (by assumption)))) | with_reducible (k_here; (with_reducible show wpAny _ _ (call (Value.builtin "re.Pattern.search") [Value.ref 48, Value.str _ _]) _ _ _); k_dflt (refine' re_search (code := nameCode) ?k1 ?k2 ?k3 ?k4 ?k5 ?k6 ?k7 ?_; (case k1 => k_asm); (case k2 => k_asm); (case k3 => k_is); (case k4 => k_is); (case k5 => decide +kernel); (case k6 => assumption); (case k7 => exact name_fails (by assumption)))) | with_reducible (k_here; (with_reducible show wpAny _ _ (getMethod (Value.ref _) (Str.ofString "search") _) _ _ _); k_dflt (refine' re_method ?k1 ?k2 ?k3 ?_; (case k1 => k_asm); (case k2 => k_asm); (case k3 => k_is))) | with_reducible (k_here; (with_reducible show wpAny _ _ (call (Value.builtin "str.join") [Value.str _ _, Value.ref _]) _ _ _); (with_reducible rename StrsAre _ _ => hSt99z); k_dflt (refine' join_listW (ys := ?ys) ?k1 ?k2 ?k3 ?k4 ?_; (case k1 => exact News.isList (by k_asm) (by k_mem)); (case k2 => simpa using hSt99z); (case k3 => decide); (case k4 => first | omega | (simp only [] at *; omega))); intro t99z k99z) | with_reducible (k_here; (with_reducible show wpAny _ _ (truthy (Value.ref _)) _ _ _); (with_reducible rename StrsAre _ _ => hSt99z); k_dflt (refine' txt_truthy ?N ?m hSt99z ?z ?_; (case N => k_asm); (case m => k_mem); (case z => first | omega | (simp only [List.length_append, List.length_cons, List.length_nil]; omega)))) | with_reducible (k_here; (with_reducible show wpAny _ _ (subscriptTail _ _ (Value.ref _) (Value.int (-1) _)) _ _ _); (with_reducible rename StrsAre _ _ => hSt99z); k_dflt (refine' txt_last ?N ?m hSt99z ?l ?_ ?z; (case N => k_asm); (case m => k_mem); (case l => with_reducible assumption); (case z => with_unfolding_all rfl)); intro y99z t99z e99z) | with_reducible (k_here; (with_reducible show wpAny _ _ (call (Value.builtin _) [Value.ref _]) _ _ _); (with_reducible rename StrsAre _ _ => hSt99z); k_dflt (refine' txt_pop ?F ?N ?U hSt99z ?l ?z ?_; (case F => k_asm); (case N => k_asm); (case U => k_upd); (case l => assumption); (case z => omega)); intro h9z y9z t9z F9z N9z hI9z) | with_reducible (k_here; (with_reducible show wpAny _ _ (call (Value.builtin "str.split") _) _ _ _); refine KSpl.split1 (by k_asm) (by k_asm) (by decide) ?_ (by (first | exact split_fits (by assumption) | exact split_fits (Nat.le_trans (restOf_le _) (by assumption)))); intro D9z l9z h9z k9z e9z a9z F9z N9z l19z; (try k_lt l19z)) | with_reducible (k_here; (with_reducible show wpAny _ _ (call (Value.ref 273) [Value.str _ _]) _ _ _); k_dflt (refine' Pure.use' (splitroot_c _ _ _ ?kx) ?k1 ?k2 ?k3 ?k4 ?k5 ?kK ?kd ?ku trivial ?_; (case kx => walk_at "my len"); (((case k1 => k_asm); (case k2 => k_asm); (case k3 => k_asm); (case k4 => k_asm); (case k5 => k_asm); (case kK => first | exact rfl | assumption); (case kd => ktr_room); (case ku => ktr_units)))); intro v99z h99z tk99z F99z N99z f99z e99z; (obtain ⟨D99z, t99z, u99z, w99z, e99z, g99z, n99z⟩ := e99z); (cases e99z); (replace N99z := news_fresh f99z N99z g99z n99z); (clear f99z g99z n99z); (try dsimp only); (try k_fold)) | with_reducible (k_here; (with_reducible show wpAny _ _ (call (Value.ref 193) [Value.str _ _]) _ _ _); k_dflt (refine' Pure.use (get_sep_c _ _ _) ?k1 ?k2 ?k3 ?k4 ?k5 ?kK ?kd ?ku trivial ?_; (((case k1 => k_asm); (case k2 => k_asm); (case k3 => k_asm); (case k4 => k_asm); (case k5 => k_asm); (case kK => first | exact rfl | assumption); (case kd => ktr_room); (case ku => ktr_units)))); intro v99z h99z tk99z F99z N99z e99z; (obtain ⟨t99z, e99z⟩ := e99z); (cases e99z); (try dsimp only); (try k_fold)) | with_reducible (k_here; (with_reducible show wpAny _ _ (call (Value.ref 266) [Value.str _ _]) _ _ _); k_dflt (refine' Pure.use (fspath_c _ _ _) ?k1 ?k2 ?k3 ?k4 ?k5 ?kK ?kd ?ku trivial ?_; (((case k1 => k_asm); (case k2 => k_asm); (case k3 => k_asm); (case k4 => k_asm); (case k5 => k_asm); (case kK => first | exact rfl | assumption); (case kd => ktr_room); (case ku => ktr_units)))); intro v99z h99z tk99z F99z N99z e99z; (cases e99z); (try dsimp only); (try k_fold)) | walk1 | (dsimp only; walk1) | (leave1; walk_say "STEP leave1"; try dsimp only))
      · exact ⟨_, if_pos (beq_iff_eq.mp (by with_reducible assumption)), EltPost.mk (by with_reducible assumption) (by with_reducible assumption) (fun p hp => hp) rfl⟩
      · exact ⟨if_neg (low_ne (by with_reducible assumption)), EndPost.mk (by with_reducible assumption) (by with_reducible assumption) (fun p hp => hp)⟩
    · intro D2 h2 tk2 ys2 hy2 F2 N2 o2
      exact list_post4 F2 (by simp only [List.cons_append, List.append_assoc]; exact N2) (by simp only [List.cons_append, List.append_assoc]; exact o2) hy2
  intro D7 h7 tk7 ls7 zs7 hz7 F7 N7
  repeat' (first | (k_unfold; (try dsimp only)) | (k_end; wrow_close) | ((fail_if_success (with_reducible show wpAny _ _ _ _ _ _)); dsimp only) | with_reducible (k_here; (with_reducible show wpAny _ _ (call (Value.ref 280) [Value.str _ _]) _ _ _); k_dflt (refine' Pure.use (basename_c _ _ _ ?kx) ?k1 ?k2 ?k3 ?k4 ?k5 ?kK ?kd ?ku trivial ?_; (case kx => walk_at "my len"); (((case k1 => k_asm); (case k2 => k_asm); (case k3 => k_asm); (case k4 => k_asm); (case k5 => k_asm); (case kK => first | exact rfl | assumption); (case kd => ktr_room); (case ku => ktr_units)))); intro v99z h99z tk99z F99z N99z e99z; (obtain ⟨t99z, e99z⟩ := e99z); (cases e99z); (try dsimp only); (try k_fold)) | with_reducible (k_here; (with_reducible show wpAny _ _ (call (Value.ref 287) [Value.str _ _]) _ _ _); k_dflt (refine' Pure.use (normpath_c _ _ _ ?kx) ?k1 ?k2 ?k3 ?k4 ?k5 ?kK ?kd ?ku trivial ?_; (case kx => walk_at "my len"); (((case k1 => k_asm); (case k2 => k_asm); (case k3 => k_asm); (case k4 => k_asm); (case k5 => k_asm); (case kK => first | exact rfl | assumption); (case kd => ktr_room); (case ku => ktr_units)))); intro v99z h99z tk99z F99z N99z e99z; (obtain ⟨t99z, e99z⟩ := e99z); (cases e99z); (try dsimp only); (try k_fold)) | with_reducible (k_here; (with_reducible show wpAny _ _ (call (Value.ref 360) [Value.str (Str.ofString "X") _, Value.str (Str.ofString "a b") _]) _ _ _); k_dflt (refine' PureT.use (refused3 _ _ _) ?k1 ?k2 ?k3 ?k4 ?k5 ?kK ?kd ?ku ?_; (((case k1 => k_asm); (case k2 => k_asm); (case k3 => k_asm); (case k4 => k_asm); (case k5 => k_asm); (case kK => first | exact rfl | assumption); (case kd => ktr_room); (case ku => ktr_units)))); intro v99z h99z tk99z F99z N99z e99z; (cases e99z); (try dsimp only); (try k_fold)) | with_reducible (k_here; (with_reducible show wpAny _ _ (call (Value.ref 360) [Value.str (Str.ofString "X\n") _, Value.str (Str.ofString "a") _]) _ _ _); k_dflt (refine' PureT.use (refused2 _ _ _) ?k1 ?k2 ?k3 ?k4 ?k5 ?kK ?kd ?ku ?_; (((case k1 => k_asm); (case k2 => k_asm); (case k3 => k_asm); (case k4 => k_asm); (case k5 => k_asm); (case kK => first | exact rfl | assumption); (case kd => ktr_room); (case ku => ktr_units)))); intro v99z h99z tk99z F99z N99z e99z; (cases e99z); (try dsimp only); (try k_fold)) | with_reducible (k_here; (with_reducible show wpAny _ _ (call (Value.ref 360) [Value.str (Str.ofString "X") _, Value.str (Str.ofString "a\nb") _]) _ _ _); k_dflt (refine' PureT.use (refused1 _ _ _) ?k1 ?k2 ?k3 ?k4 ?k5 ?kK ?kd ?ku ?_; (((case k1 => k_asm); (case k2 => k_asm); (case k3 => k_asm); (case k4 => k_asm); (case k5 => k_asm); (case kK => first | exact rfl | assumption); (case kd => ktr_room); (case ku => ktr_units)))); intro v99z h99z tk99z F99z N99z e99z; (cases e99z); (try dsimp only); (try k_fold)) | with_reducible (k_here; (with_reducible show wpAny _ _ (call (Value.builtin "len") [Value.ref _]) _ _ _); (rename (List.length _ = List.length _) => hLn99z); k_dflt (refine len_any (by k_asm) (by k_mem) (by omega) ?_); intro t99z k99z) | with_reducible (k_here; (with_reducible show wpAny _ _ (binaryOp Operator.Add (Value.str _ _) (Value.str _ _)) _ _ _); k_dflt (refine addS (by first | exact fit1 (by with_reducible assumption) | exact fit2 (by with_reducible assumption) (by with_reducible assumption) | exact fit3 (by with_reducible assumption) (by with_reducible assumption) | (rw [sizeLine_eq]; (try simp only [Str.length_append]); omega)) ?_); intro t99z k99z hl99z; clear hl99z) | with_reducible (k_here; (with_reducible show wpAny _ _ (call (Value.ref 346) [Value.ref _]) _ _ _); (rename IntsAre _ (List.take 4 _) => hI99z); k_dflt (refine' PureN.use (requests_c _ _ _ 0 _ hI99z ?kl) ?k1 ?k2 ?k3 ?k4 ?k5 ?kK ?kd ?ku ?hs ?_; (case kl => (rw [List.length_take]; omega)); (((case k1 => k_asm); (case k2 => k_asm); (case k3 => k_asm); (case k4 => k_asm); (case k5 => k_asm); (case kK => first | exact rfl | assumption); (case kd => ktr_room); (case ku => ktr_units))); (case hs => exact fun p hp => by rw [List.mem_singleton.mp hp]; k_mem)); intro v99z h99z tk99z F99z N99z e99z; (obtain ⟨D99z, vs99z, n99z, e99z, M99z, S99z⟩ := e99z); (cases e99z); (replace N99z := news_both M99z N99z); (clear M99z); (try simp only [List.cons_append, List.nil_append] at N99z); (try dsimp only); (try k_fold)) | with_reducible (k_here; (with_reducible show wpAny _ _ (call (Value.ref 182) [Value.ref _]) _ _ _); k_dflt (refine' call_cls ?k1 ?k2 ?k3 ?k4 ?k5 ?k6 ?_; (case k1 => k_asm); (case k2 => k_asm); (case k3 => k_asm); (case k4 => k_is); (case k5 => k_is); (case k6 => k_is); k_whole; intro x9z d9z h9z F9z N9z l19z l29z; (try k_lt l19z); (try k_lt2 l29z); (try k_sweep); ((refine' code_def ?k1 ?k2 ?k3 ?k4 ?k5 ?kA ?kF ?kK ?k6 ?k7 ?k8 ?k9 ?kB ?_ ?c2 ?c3 ?c4 ?c5; (((case kA => exact rfl); (case kF => exact rfl); (case kK => first | exact rfl | assumption); (case k1 => k_asm); (case k2 => k_asm); (case k3 => k_asm); (try (case k4 => k_asm)); (case k5 => k_asm); (case k6 => k_is); (case k7 => k_is); (case k8 => ktr_room); (try (case k9 => first | exact BindsTo.of_eq rfl | (refine' kp_binds ?kx ?ke; (case kx => k_in); (case ke => exact fun _ => rfl)))))); (((try (case c5 => decide)); (try (case kB => exact locs rfl)); (case c2 => exact rfl); (case c3 => exact rfl); (case c4 => exact rfl); k_whole)); intro g9z L9z h9z FG9z F9z N9z B9z X9z T9z; (try dsimp only); (try k_lift B9z); (try k_fold))))) | with_reducible (k_here; (with_reducible show wpAny _ _ (call (Value.builtin "dict.get") [Value.ref _, Value.str _ _]) _ _ _); k_dflt (refine site_get (by assumption) ?_ ?_); first | (intro m99z t99z hm99z hm09z hm19z) | (intro hm99z)) | with_reducible (k_here; (with_reducible show wpAny _ _ (getMethod (Value.ref _) (Str.ofString "get") _) _ _ _); k_dflt (refine getMethod_strTab_get (by assumption) ?_)) | with_reducible (k_here; (with_reducible show wpAny _ _ (call (Value.ref 341) _) _ _ _); k_dflt (refine' Pure.use (site_c _) ?k1 ?k2 ?k3 ?k4 ?k5 ?kK ?kd ?ku trivial ?_; (((case k1 => k_asm); (case k2 => k_asm); (case k3 => k_asm); (case k4 => k_asm); (case k5 => k_asm); (case kK => first | exact rfl | assumption); (case kd => ktr_room); (case ku => ktr_units)))); intro v99z h99z tk99z F99z N99z e99z; (obtain ⟨D99z, e99z, n99z, T99z⟩ := e99z); (cases e99z); (clear n99z); (try dsimp only); (try k_fold)) | with_reducible (k_here; (with_reducible show wpAny _ _ (call (Value.ref 294) [Value.int _ _]) _ _ _); k_dflt (refine' Pure.use (ifmt_c _ _ _) ?k1 ?k2 ?k3 ?k4 ?k5 ?kK ?kd ?ku trivial ?_; (((case k1 => k_asm); (case k2 => k_asm); (case k3 => k_asm); (case k4 => k_asm); (case k5 => k_asm); (case kK => first | exact rfl | assumption); (case kd => ktr_room); (case ku => ktr_units)))); intro v99z h99z tk99z F99z N99z e99z; (obtain ⟨t99z, e99z⟩ := e99z); (cases e99z); (try dsimp only); (try k_fold)) | with_reducible (k_here; (with_reducible show wpAny _ _ (call (Value.ref 83) [Value.ref _, Value.str _ _] _) _ _ _); k_dflt (refine' PureK.use (conv_c _ _ _ _ _ ?kx ?kp) ?k1 ?k2 ?k3 ?k4 ?k5 ?kK ?kd ?ku trivial ?_; (case kx => walk_at "my len"); (case kp => walk_at "my print"); (((case k1 => k_asm); (case k2 => k_asm); (case k3 => k_asm); (case k4 => k_asm); (case k5 => k_asm); (case kK => first | exact rfl | assumption); (case kd => ktr_room); (case ku => ktr_units)))); intro v99z h99z tk99z F99z N99z e99z; (cases e99z); (try dsimp only); (try k_fold)) | with_reducible (k_here; (with_reducible show wpAny _ _ (call (Value.builtin "re.Pattern.search") [Value.ref 53, Value.str _ _]) _ _ _); k_dflt (refine' re_search (code := valueCode) ?k1 ?k2 ?k3 ?k4 ?k5 ?k6 ?k7 ?_; (case k1 => k_asm); (case k2 => k_asm); (case k3 => k_is); (case k4 => k_is); (case k5 => decide +kernel); (case k6 => assumption); (case k7 => exact value_fails (by assumption)))) | with_reducible (k_here; (with_reducible show wpAny _ _ (call (Value.builtin "re.Pattern.search") [Value.ref 48, Value.str _ _]) _ _ _); k_dflt (refine' re_search (code := nameCode) ?k1 ?k2 ?k3 ?k4 ?k5 ?k6 ?k7 ?_; (case k1 => k_asm); (case k2 => k_asm); (case k3 => k_is); (case k4 => k_is); (case k5 => decide +kernel); (case k6 => assumption); (case k7 => exact name_fails (by assumption)))) | with_reducible (k_here; (with_reducible show wpAny _ _ (getMethod (Value.ref _) (Str.ofString "search") _) _ _ _); k_dflt (refine' re_method ?k1 ?k2 ?k3 ?_; (case k1 => k_asm); (case k2 => k_asm); (case k3 => k_is))) | with_reducible (k_here; (with_reducible show wpAny _ _ (call (Value.builtin "str.join") [Value.str _ _, Value.ref _]) _ _ _); (with_reducible rename StrsAre _ _ => hSt99z); k_dflt (refine' join_listW (ys := ?ys) ?k1 ?k2 ?k3 ?k4 ?_; (case k1 => exact News.isList (by k_asm) (by k_mem)); (case k2 => simpa using hSt99z); (case k3 => decide); (case k4 => first | omega | (simp only [] at *; omega))); intro t99z k99z) | with_reducible (k_here; (with_reducible show wpAny _ _ (truthy (Value.ref _)) _ _ _); (with_reducible rename StrsAre _ _ => hSt99z); k_dflt (refine' txt_truthy ?N ?m hSt99z ?z ?_; (case N => k_asm); (case m => k_mem); (case z => first | omega | (simp only [List.length_append, List.length_cons, List.length_nil]; omega)))) | with_reducible (k_here; (with_reducible show wpAny _ _ (subscriptTail _ _ (Value.ref _) (Value.int (-1) _)) _ _ _); (with_reducible rename StrsAre _ _ => hSt99z); k_dflt (refine' txt_last ?N ?m hSt99z ?l ?_ ?z; (case N => k_asm); (case m => k_mem); (case l => with_reducible assumption); (case z => with_unfolding_all rfl)); intro y99z t99z e99z) | with_reducible (k_here; (with_reducible show wpAny _ _ (call (Value.builtin _) [Value.ref _]) _ _ _); (with_reducible rename StrsAre _ _ => hSt99z); k_dflt (refine' txt_pop ?F ?N ?U hSt99z ?l ?z ?_; (case F => k_asm); (case N => k_asm); (case U => k_upd); (case l => assumption); (case z => omega)); intro h9z y9z t9z F9z N9z hI9z) | with_reducible (k_here; (with_reducible show wpAny _ _ (call (Value.builtin "str.split") _) _ _ _); refine KSpl.split1 (by k_asm) (by k_asm) (by decide) ?_ (by (first | exact split_fits (by assumption) | exact split_fits (Nat.le_trans (restOf_le _) (by assumption)))); intro D9z l9z h9z k9z e9z a9z F9z N9z l19z; (try k_lt l19z)) | with_reducible (k_here; (with_reducible show wpAny _ _ (call (Value.ref 273) [Value.str _ _]) _ _ _); k_dflt (refine' Pure.use' (splitroot_c _ _ _ ?kx) ?k1 ?k2 ?k3 ?k4 ?k5 ?kK ?kd ?ku trivial ?_; (case kx => walk_at "my len"); (((case k1 => k_asm); (case k2 => k_asm); (case k3 => k_asm); (case k4 => k_asm); (case k5 => k_asm); (case kK => first | exact rfl | assumption); (case kd => ktr_room); (case ku => ktr_units)))); intro v99z h99z tk99z F99z N99z f99z e99z; (obtain ⟨D99z, t99z, u99z, w99z, e99z, g99z, n99z⟩ := e99z); (cases e99z); (replace N99z := news_fresh f99z N99z g99z n99z); (clear f99z g99z n99z); (try dsimp only); (try k_fold)) | with_reducible (k_here; (with_reducible show wpAny _ _ (call (Value.ref 193) [Value.str _ _]) _ _ _); k_dflt (refine' Pure.use (get_sep_c _ _ _) ?k1 ?k2 ?k3 ?k4 ?k5 ?kK ?kd ?ku trivial ?_; (((case k1 => k_asm); (case k2 => k_asm); (case k3 => k_asm); (case k4 => k_asm); (case k5 => k_asm); (case kK => first | exact rfl | assumption); (case kd => ktr_room); (case ku => ktr_units)))); intro v99z h99z tk99z F99z N99z e99z; (obtain ⟨t99z, e99z⟩ := e99z); (cases e99z); (try dsimp only); (try k_fold)) | with_reducible (k_here; (with_reducible show wpAny _ _ (call (Value.ref 266) [Value.str _ _]) _ _ _); k_dflt (refine' Pure.use (fspath_c _ _ _) ?k1 ?k2 ?k3 ?k4 ?k5 ?kK ?kd ?ku trivial ?_; (((case k1 => k_asm); (case k2 => k_asm); (case k3 => k_asm); (case k4 => k_asm); (case k5 => k_asm); (case kK => first | exact rfl | assumption); (case kd => ktr_room); (case ku => ktr_units)))); intro v99z h99z tk99z F99z N99z e99z; (cases e99z); (try dsimp only); (try k_fold)) | walk1 | (dsimp only; walk1) | (leave1; walk_say "STEP leave1"; try dsimp only))
  rename News _ _ _ _ => nN
  refine ne_lists nN (fun p hp => hp) (List.Mem.tail _ (by repeat (first | exact List.mem_append_right _ (List.Mem.head _) | refine List.Mem.tail _ ?_)) : (_, LCg.lst _) ∈ _) (List.Mem.head _) (hzs.mono fun p hp => .tail _ (List.mem_append_right _ (by repeat (first | exact List.mem_append_right _ (List.mem_append_right _ hp) | refine List.Mem.tail _ ?_)))) (hz7.mono fun p hp => .tail _ (List.mem_append_left _ hp)) (ok_of rowsok _ nameAt) (by ke_room) ?_
  rename Fr _ _ _ _ => fL9
  have nN0 := nil_of fL9
  clear nN
  repeat' (first | (k_unfold; (try dsimp only)) | (k_end; wrow_close) | ((fail_if_success (with_reducible show wpAny _ _ _ _ _ _)); dsimp only) | with_reducible (k_here; (with_reducible show wpAny _ _ (call (Value.ref 280) [Value.str _ _]) _ _ _); k_dflt (refine' Pure.use (basename_c _ _ _ ?kx) ?k1 ?k2 ?k3 ?k4 ?k5 ?kK ?kd ?ku trivial ?_; (case kx => walk_at "my len"); (((case k1 => k_asm); (case k2 => k_asm); (case k3 => k_asm); (case k4 => k_asm); (case k5 => k_asm); (case kK => first | exact rfl | assumption); (case kd => ktr_room); (case ku => ktr_units)))); intro v99z h99z tk99z F99z N99z e99z; (obtain ⟨t99z, e99z⟩ := e99z); (cases e99z); (try dsimp only); (try k_fold)) | with_reducible (k_here; (with_reducible show wpAny _ _ (call (Value.ref 287) [Value.str _ _]) _ _ _); k_dflt (refine' Pure.use (normpath_c _ _ _ ?kx) ?k1 ?k2 ?k3 ?k4 ?k5 ?kK ?kd ?ku trivial ?_; (case kx => walk_at "my len"); (((case k1 => k_asm); (case k2 => k_asm); (case k3 => k_asm); (case k4 => k_asm); (case k5 => k_asm); (case kK => first | exact rfl | assumption); (case kd => ktr_room); (case ku => ktr_units)))); intro v99z h99z tk99z F99z N99z e99z; (obtain ⟨t99z, e99z⟩ := e99z); (cases e99z); (try dsimp only); (try k_fold)) | with_reducible (k_here; (with_reducible show wpAny _ _ (call (Value.ref 360) [Value.str (Str.ofString "X") _, Value.str (Str.ofString "a b") _]) _ _ _); k_dflt (refine' PureT.use (refused3 _ _ _) ?k1 ?k2 ?k3 ?k4 ?k5 ?kK ?kd ?ku ?_; (((case k1 => k_asm); (case k2 => k_asm); (case k3 => k_asm); (case k4 => k_asm); (case k5 => k_asm); (case kK => first | exact rfl | assumption); (case kd => ktr_room); (case ku => ktr_units)))); intro v99z h99z tk99z F99z N99z e99z; (cases e99z); (try dsimp only); (try k_fold)) | with_reducible (k_here; (with_reducible show wpAny _ _ (call (Value.ref 360) [Value.str (Str.ofString "X\n") _, Value.str (Str.ofString "a") _]) _ _ _); k_dflt (refine' PureT.use (refused2 _ _ _) ?k1 ?k2 ?k3 ?k4 ?k5 ?kK ?kd ?ku ?_; (((case k1 => k_asm); (case k2 => k_asm); (case k3 => k_asm); (case k4 => k_asm); (case k5 => k_asm); (case kK => first | exact rfl | assumption); (case kd => ktr_room); (case ku => ktr_units)))); intro v99z h99z tk99z F99z N99z e99z; (cases e99z); (try dsimp only); (try k_fold)) | with_reducible (k_here; (with_reducible show wpAny _ _ (call (Value.ref 360) [Value.str (Str.ofString "X") _, Value.str (Str.ofString "a\nb") _]) _ _ _); k_dflt (refine' PureT.use (refused1 _ _ _) ?k1 ?k2 ?k3 ?k4 ?k5 ?kK ?kd ?ku ?_; (((case k1 => k_asm); (case k2 => k_asm); (case k3 => k_asm); (case k4 => k_asm); (case k5 => k_asm); (case kK => first | exact rfl | assumption); (case kd => ktr_room); (case ku => ktr_units)))); intro v99z h99z tk99z F99z N99z e99z; (cases e99z); (try dsimp only); (try k_fold)) | with_reducible (k_here; (with_reducible show wpAny _ _ (call (Value.builtin "len") [Value.ref _]) _ _ _); (rename (List.length _ = List.length _) => hLn99z); k_dflt (refine len_any (by k_asm) (by k_mem) (by omega) ?_); intro t99z k99z) | with_reducible (k_here; (with_reducible show wpAny _ _ (binaryOp Operator.Add (Value.str _ _) (Value.str _ _)) _ _ _); k_dflt (refine addS (by first | exact fit1 (by with_reducible assumption) | exact fit2 (by with_reducible assumption) (by with_reducible assumption) | exact fit3 (by with_reducible assumption) (by with_reducible assumption) | (rw [sizeLine_eq]; (try simp only [Str.length_append]); omega)) ?_); intro t99z k99z hl99z; clear hl99z) | with_reducible (k_here; (with_reducible show wpAny _ _ (call (Value.ref 346) [Value.ref _]) _ _ _); (rename IntsAre _ (List.take 4 _) => hI99z); k_dflt (refine' PureN.use (requests_c _ _ _ 0 _ hI99z ?kl) ?k1 ?k2 ?k3 ?k4 ?k5 ?kK ?kd ?ku ?hs ?_; (case kl => (rw [List.length_take]; omega)); (((case k1 => k_asm); (case k2 => k_asm); (case k3 => k_asm); (case k4 => k_asm); (case k5 => k_asm); (case kK => first | exact rfl | assumption); (case kd => ktr_room); (case ku => ktr_units))); (case hs => exact fun p hp => by rw [List.mem_singleton.mp hp]; k_mem)); intro v99z h99z tk99z F99z N99z e99z; (obtain ⟨D99z, vs99z, n99z, e99z, M99z, S99z⟩ := e99z); (cases e99z); (replace N99z := news_both M99z N99z); (clear M99z); (try simp only [List.cons_append, List.nil_append] at N99z); (try dsimp only); (try k_fold)) | with_reducible (k_here; (with_reducible show wpAny _ _ (call (Value.ref 182) [Value.ref _]) _ _ _); k_dflt (refine' call_cls ?k1 ?k2 ?k3 ?k4 ?k5 ?k6 ?_; (case k1 => k_asm); (case k2 => k_asm); (case k3 => k_asm); (case k4 => k_is); (case k5 => k_is); (case k6 => k_is); k_whole; intro x9z d9z h9z F9z N9z l19z l29z; (try k_lt l19z); (try k_lt2 l29z); (try k_sweep); ((refine' code_def ?k1 ?k2 ?k3 ?k4 ?k5 ?kA ?kF ?kK ?k6 ?k7 ?k8 ?k9 ?kB ?_ ?c2 ?c3 ?c4 ?c5; (((case kA => exact rfl); (case kF => exact rfl); (case kK => first | exact rfl | assumption); (case k1 => k_asm); (case k2 => k_asm); (case k3 => k_asm); (try (case k4 => k_asm)); (case k5 => k_asm); (case k6 => k_is); (case k7 => k_is); (case k8 => ktr_room); (try (case k9 => first | exact BindsTo.of_eq rfl | (refine' kp_binds ?kx ?ke; (case kx => k_in); (case ke => exact fun _ => rfl)))))); (((try (case c5 => decide)); (try (case kB => exact locs rfl)); (case c2 => exact rfl); (case c3 => exact rfl); (case c4 => exact rfl); k_whole)); intro g9z L9z h9z FG9z F9z N9z B9z X9z T9z; (try dsimp only); (try k_lift B9z); (try k_fold))))) | with_reducible (k_here; (with_reducible show wpAny _ _ (call (Value.builtin "dict.get") [Value.ref _, Value.str _ _]) _ _ _); k_dflt (refine site_get (by assumption) ?_ ?_); first | (intro m99z t99z hm99z hm09z hm19z) | (intro hm99z)) | with_reducible (k_here; (with_reducible show wpAny _ _ (getMethod (Value.ref _) (Str.ofString "get") _) _ _ _); k_dflt (refine getMethod_strTab_get (by assumption) ?_)) | with_reducible (k_here; (with_reducible show wpAny _ _ (call (Value.ref 341) _) _ _ _); k_dflt (refine' Pure.use (site_c _) ?k1 ?k2 ?k3 ?k4 ?k5 ?kK ?kd ?ku trivial ?_; (((case k1 => k_asm); (case k2 => k_asm); (case k3 => k_asm); (case k4 => k_asm); (case k5 => k_asm); (case kK => first | exact rfl | assumption); (case kd => ktr_room); (case ku => ktr_units)))); intro v99z h99z tk99z F99z N99z e99z; (obtain ⟨D99z, e99z, n99z, T99z⟩ := e99z); (cases e99z); (clear n99z); (try dsimp only); (try k_fold)) | with_reducible (k_here; (with_reducible show wpAny _ _ (call (Value.ref 294) [Value.int _ _]) _ _ _); k_dflt (refine' Pure.use (ifmt_c _ _ _) ?k1 ?k2 ?k3 ?k4 ?k5 ?kK ?kd ?ku trivial ?_; (((case k1 => k_asm); (case k2 => k_asm); (case k3 => k_asm); (case k4 => k_asm); (case k5 => k_asm); (case kK => first | exact rfl | assumption); (case kd => ktr_room); (case ku => ktr_units)))); intro v99z h99z tk99z F99z N99z e99z; (obtain ⟨t99z, e99z⟩ := e99z); (cases e99z); (try dsimp only); (try k_fold)) | with_reducible (k_here; (with_reducible show wpAny _ _ (call (Value.ref 83) [Value.ref _, Value.str _ _] _) _ _ _); k_dflt (refine' PureK.use (conv_c _ _ _ _ _ ?kx ?kp) ?k1 ?k2 ?k3 ?k4 ?k5 ?kK ?kd ?ku trivial ?_; (case kx => walk_at "my len"); (case kp => walk_at "my print"); (((case k1 => k_asm); (case k2 => k_asm); (case k3 => k_asm); (case k4 => k_asm); (case k5 => k_asm); (case kK => first | exact rfl | assumption); (case kd => ktr_room); (case ku => ktr_units)))); intro v99z h99z tk99z F99z N99z e99z; (cases e99z); (try dsimp only); (try k_fold)) | with_reducible (k_here; (with_reducible show wpAny _ _ (call (Value.builtin "re.Pattern.search") [Value.ref 53, Value.str _ _]) _ _ _); k_dflt (refine' re_search (code := valueCode) ?k1 ?k2 ?k3 ?k4 ?k5 ?k6 ?k7 ?_; (case k1 => k_asm); (case k2 => k_asm); (case k3 => k_is); (case k4 => k_is); (case k5 => decide +kernel); (case k6 => assumption); (case k7 => exact value_fails (by assumption)))) | with_reducible (k_here; (with_reducible show wpAny _ _ (call (Value.builtin "re.Pattern.search") [Value.ref 48, Value.str _ _]) _ _ _); k_dflt (refine' re_search (code := nameCode) ?k1 ?k2 ?k3 ?k4 ?k5 ?k6 ?k7 ?_; (case k1 => k_asm); (case k2 => k_asm); (case k3 => k_is); (case k4 => k_is); (case k5 => decide +kernel); (case k6 => assumption); (case k7 => exact name_fails (by assumption)))) | with_reducible (k_here; (with_reducible show wpAny _ _ (getMethod (Value.ref _) (Str.ofString "search") _) _ _ _); k_dflt (refine' re_method ?k1 ?k2 ?k3 ?_; (case k1 => k_asm); (case k2 => k_asm); (case k3 => k_is))) | with_reducible (k_here; (with_reducible show wpAny _ _ (call (Value.builtin "str.join") [Value.str _ _, Value.ref _]) _ _ _); (with_reducible rename StrsAre _ _ => hSt99z); k_dflt (refine' join_listW (ys := ?ys) ?k1 ?k2 ?k3 ?k4 ?_; (case k1 => exact News.isList (by k_asm) (by k_mem)); (case k2 => simpa using hSt99z); (case k3 => decide); (case k4 => first | omega | (simp only [] at *; omega))); intro t99z k99z) | with_reducible (k_here; (with_reducible show wpAny _ _ (truthy (Value.ref _)) _ _ _); (with_reducible rename StrsAre _ _ => hSt99z); k_dflt (refine' txt_truthy ?N ?m hSt99z ?z ?_; (case N => k_asm); (case m => k_mem); (case z => first | omega | (simp only [List.length_append, List.length_cons, List.length_nil]; omega)))) | with_reducible (k_here; (with_reducible show wpAny _ _ (subscriptTail _ _ (Value.ref _) (Value.int (-1) _)) _ _ _); (with_reducible rename StrsAre _ _ => hSt99z); k_dflt (refine' txt_last ?N ?m hSt99z ?l ?_ ?z; (case N => k_asm); (case m => k_mem); (case l => with_reducible assumption); (case z => with_unfolding_all rfl)); intro y99z t99z e99z) | with_reducible (k_here; (with_reducible show wpAny _ _ (call (Value.builtin _) [Value.ref _]) _ _ _); (with_reducible rename StrsAre _ _ => hSt99z); k_dflt (refine' txt_pop ?F ?N ?U hSt99z ?l ?z ?_; (case F => k_asm); (case N => k_asm); (case U => k_upd); (case l => assumption); (case z => omega)); intro h9z y9z t9z F9z N9z hI9z) | with_reducible (k_here; (with_reducible show wpAny _ _ (call (Value.builtin "str.split") _) _ _ _); refine KSpl.split1 (by k_asm) (by k_asm) (by decide) ?_ (by (first | exact split_fits (by assumption) | exact split_fits (Nat.le_trans (restOf_le _) (by assumption)))); intro D9z l9z h9z k9z e9z a9z F9z N9z l19z; (try k_lt l19z)) | with_reducible (k_here; (with_reducible show wpAny _ _ (call (Value.ref 273) [Value.str _ _]) _ _ _); k_dflt (refine' Pure.use' (splitroot_c _ _ _ ?kx) ?k1 ?k2 ?k3 ?k4 ?k5 ?kK ?kd ?ku trivial ?_; (case kx => walk_at "my len"); (((case k1 => k_asm); (case k2 => k_asm); (case k3 => k_asm); (case k4 => k_asm); (case k5 => k_asm); (case kK => first | exact rfl | assumption); (case kd => ktr_room); (case ku => ktr_units)))); intro v99z h99z tk99z F99z N99z f99z e99z; (obtain ⟨D99z, t99z, u99z, w99z, e99z, g99z, n99z⟩ := e99z); (cases e99z); (replace N99z := news_fresh f99z N99z g99z n99z); (clear f99z g99z n99z); (try dsimp only); (try k_fold)) | with_reducible (k_here; (with_reducible show wpAny _ _ (call (Value.ref 193) [Value.str _ _]) _ _ _); k_dflt (refine' Pure.use (get_sep_c _ _ _) ?k1 ?k2 ?k3 ?k4 ?k5 ?kK ?kd ?ku trivial ?_; (((case k1 => k_asm); (case k2 => k_asm); (case k3 => k_asm); (case k4 => k_asm); (case k5 => k_asm); (case kK => first | exact rfl | assumption); (case kd => ktr_room); (case ku => ktr_units)))); intro v99z h99z tk99z F99z N99z e99z; (obtain ⟨t99z, e99z⟩ := e99z); (cases e99z); (try dsimp only); (try k_fold)) | with_reducible (k_here; (with_reducible show wpAny _ _ (call (Value.ref 266) [Value.str _ _]) _ _ _); k_dflt (refine' Pure.use (fspath_c _ _ _) ?k1 ?k2 ?k3 ?k4 ?k5 ?kK ?kd ?ku trivial ?_; (((case k1 => k_asm); (case k2 => k_asm); (case k3 => k_asm); (case k4 => k_asm); (case k5 => k_asm); (case kK => first | exact rfl | assumption); (case kd => ktr_room); (case ku => ktr_units)))); intro v99z h99z tk99z F99z N99z e99z; (cases e99z); (try dsimp only); (try k_fold)) | walk1 | (dsimp only; walk1) | (leave1; walk_say "STEP leave1"; try dsimp only))
  unfold Hold
  refine' LCg.ListComp_U (F₀ := by k_asm) ?hc ?h1 ?h2 ?h3 ?h4 ?_ ?h5
  case hc => with_unfolding_all rfl
  case h1 => decide
  case h2 => rfl
  case h3 => decide
  case h4 => rfl
  case h5 => intro _; rfl
  repeat' (first | (k_unfold; (try dsimp only)) | (k_end; wrow_close) | ((fail_if_success (with_reducible show wpAny _ _ _ _ _ _)); dsimp only) | with_reducible (k_here; (with_reducible show wpAny _ _ (call (Value.ref 280) [Value.str _ _]) _ _ _); k_dflt (refine' Pure.use (basename_c _ _ _ ?kx) ?k1 ?k2 ?k3 ?k4 ?k5 ?kK ?kd ?ku trivial ?_; (case kx => walk_at "my len"); (((case k1 => k_asm); (case k2 => k_asm); (case k3 => k_asm); (case k4 => k_asm); (case k5 => k_asm); (case kK => first | exact rfl | assumption); (case kd => ktr_room); (case ku => ktr_units)))); intro v99z h99z tk99z F99z N99z e99z; (obtain ⟨t99z, e99z⟩ := e99z); (cases e99z); (try dsimp only); (try k_fold)) | with_reducible (k_here; (with_reducible show wpAny _ _ (call (Value.ref 287) [Value.str _ _]) _ _ _); k_dflt (refine' Pure.use (normpath_c _ _ _ ?kx) ?k1 ?k2 ?k3 ?k4 ?k5 ?kK ?kd ?ku trivial ?_; (case kx => walk_at "my len"); (((case k1 => k_asm); (case k2 => k_asm); (case k3 => k_asm); (case k4 => k_asm); (case k5 => k_asm); (case kK => first | exact rfl | assumption); (case kd => ktr_room); (case ku => ktr_units)))); intro v99z h99z tk99z F99z N99z e99z; (obtain ⟨t99z, e99z⟩ := e99z); (cases e99z); (try dsimp only); (try k_fold)) | with_reducible (k_here; (with_reducible show wpAny _ _ (call (Value.ref 360) [Value.str (Str.ofString "X") _, Value.str (Str.ofString "a b") _]) _ _ _); k_dflt (refine' PureT.use (refused3 _ _ _) ?k1 ?k2 ?k3 ?k4 ?k5 ?kK ?kd ?ku ?_; (((case k1 => k_asm); (case k2 => k_asm); (case k3 => k_asm); (case k4 => k_asm); (case k5 => k_asm); (case kK => first | exact rfl | assumption); (case kd => ktr_room); (case ku => ktr_units)))); intro v99z h99z tk99z F99z N99z e99z; (cases e99z); (try dsimp only); (try k_fold)) | with_reducible (k_here; (with_reducible show wpAny _ _ (call (Value.ref 360) [Value.str (Str.ofString "X\n") _, Value.str (Str.ofString "a") _]) _ _ _); k_dflt (refine' PureT.use (refused2 _ _ _) ?k1 ?k2 ?k3 ?k4 ?k5 ?kK ?kd ?ku ?_; (((case k1 => k_asm); (case k2 => k_asm); (case k3 => k_asm); (case k4 => k_asm); (case k5 => k_asm); (case kK => first | exact rfl | assumption); (case kd => ktr_room); (case ku => ktr_units)))); intro v99z h99z tk99z F99z N99z e99z; (cases e99z); (try dsimp only); (try k_fold)) | with_reducible (k_here; (with_reducible show wpAny _ _ (call (Value.ref 360) [Value.str (Str.ofString "X") _, Value.str (Str.ofString "a\nb") _]) _ _ _); k_dflt (refine' PureT.use (refused1 _ _ _) ?k1 ?k2 ?k3 ?k4 ?k5 ?kK ?kd ?ku ?_; (((case k1 => k_asm); (case k2 => k_asm); (case k3 => k_asm); (case k4 => k_asm); (case k5 => k_asm); (case kK => first | exact rfl | assumption); (case kd => ktr_room); (case ku => ktr_units)))); intro v99z h99z tk99z F99z N99z e99z; (cases e99z); (try dsimp only); (try k_fold)) | with_reducible (k_here; (with_reducible show wpAny _ _ (call (Value.builtin "len") [Value.ref _]) _ _ _); (rename (List.length _ = List.length _) => hLn99z); k_dflt (refine len_any (by k_asm) (by k_mem) (by omega) ?_); intro t99z k99z) | with_reducible (k_here; (with_reducible show wpAny _ _ (binaryOp Operator.Add (Value.str _ _) (Value.str _ _)) _ _ _); k_dflt (refine addS (by first | exact fit1 (by with_reducible assumption) | exact fit2 (by with_reducible assumption) (by with_reducible assumption) | exact fit3 (by with_reducible assumption) (by with_reducible assumption) | (rw [sizeLine_eq]; (try simp only [Str.length_append]); omega)) ?_); intro t99z k99z hl99z; clear hl99z) | with_reducible (k_here; (with_reducible show wpAny _ _ (call (Value.ref 346) [Value.ref _]) _ _ _); (rename IntsAre _ (List.take 4 _) => hI99z); k_dflt (refine' PureN.use (requests_c _ _ _ 0 _ hI99z ?kl) ?k1 ?k2 ?k3 ?k4 ?k5 ?kK ?kd ?ku ?hs ?_; (case kl => (rw [List.length_take]; omega)); (((case k1 => k_asm); (case k2 => k_asm); (case k3 => k_asm); (case k4 => k_asm); (case k5 => k_asm); (case kK => first | exact rfl | assumption); (case kd => ktr_room); (case ku => ktr_units))); (case hs => exact fun p hp => by rw [List.mem_singleton.mp hp]; k_mem)); intro v99z h99z tk99z F99z N99z e99z; (obtain ⟨D99z, vs99z, n99z, e99z, M99z, S99z⟩ := e99z); (cases e99z); (replace N99z := news_both M99z N99z); (clear M99z); (try simp only [List.cons_append, List.nil_append] at N99z); (try dsimp only); (try k_fold)) | with_reducible (k_here; (with_reducible show wpAny _ _ (call (Value.ref 182) [Value.ref _]) _ _ _); k_dflt (refine' call_cls ?k1 ?k2 ?k3 ?k4 ?k5 ?k6 ?_; (case k1 => k_asm); (case k2 => k_asm); (case k3 => k_asm); (case k4 => k_is); (case k5 => k_is); (case k6 => k_is); k_whole; intro x9z d9z h9z F9z N9z l19z l29z; (try k_lt l19z); (try k_lt2 l29z); (try k_sweep); ((refine' code_def ?k1 ?k2 ?k3 ?k4 ?k5 ?kA ?kF ?kK ?k6 ?k7 ?k8 ?k9 ?kB ?_ ?c2 ?c3 ?c4 ?c5; (((case kA => exact rfl); (case kF => exact rfl); (case kK => first | exact rfl | assumption); (case k1 => k_asm); (case k2 => k_asm); (case k3 => k_asm); (try (case k4 => k_asm)); (case k5 => k_asm); (case k6 => k_is); (case k7 => k_is); (case k8 => ktr_room); (try (case k9 => first | exact BindsTo.of_eq rfl | (refine' kp_binds ?kx ?ke; (case kx => k_in); (case ke => exact fun _ => rfl)))))); (((try (case c5 => decide)); (try (case kB => exact locs rfl)); (case c2 => exact rfl); (case c3 => exact rfl); (case c4 => exact rfl); k_whole)); intro g9z L9z h9z FG9z F9z N9z B9z X9z T9z; (try dsimp only); (try k_lift B9z); (try k_fold))))) | with_reducible (k_here; (with_reducible show wpAny _ _ (call (Value.builtin "dict.get") [Value.ref _, Value.str _ _]) _ _ _); k_dflt (refine site_get (by assumption) ?_ ?_); first | (intro m99z t99z hm99z hm09z hm19z) | (intro hm99z)) | with_reducible (k_here; (with_reducible show wpAny _ _ (getMethod (Value.ref _) (Str.ofString "get") _) _ _ _); k_dflt (refine getMethod_strTab_get (by assumption) ?_)) | with_reducible (k_here; (with_reducible show wpAny _ _ (call (Value.ref 341) _) _ _ _); k_dflt (refine' Pure.use (site_c _) ?k1 ?k2 ?k3 ?k4 ?k5 ?kK ?kd ?ku trivial ?_; (((case k1 => k_asm); (case k2 => k_asm); (case k3 => k_asm); (case k4 => k_asm); (case k5 => k_asm); (case kK => first | exact rfl | assumption); (case kd => ktr_room); (case ku => ktr_units)))); intro v99z h99z tk99z F99z N99z e99z; (obtain ⟨D99z, e99z, n99z, T99z⟩ := e99z); (cases e99z); (clear n99z); (try dsimp only); (try k_fold)) | with_reducible (k_here; (with_reducible show wpAny _ _ (call (Value.ref 294) [Value.int _ _]) _ _ _); k_dflt (refine' Pure.use (ifmt_c _ _ _) ?k1 ?k2 ?k3 ?k4 ?k5 ?kK ?kd ?ku trivial ?_; (((case k1 => k_asm); (case k2 => k_asm); (case k3 => k_asm); (case k4 => k_asm); (case k5 => k_asm); (case kK => first | exact rfl | assumption); (case kd => ktr_room); (case ku => ktr_units)))); intro v99z h99z tk99z F99z N99z e99z; (obtain ⟨t99z, e99z⟩ := e99z); (cases e99z); (try dsimp only); (try k_fold)) | with_reducible (k_here; (with_reducible show wpAny _ _ (call (Value.ref 83) [Value.ref _, Value.str _ _] _) _ _ _); k_dflt (refine' PureK.use (conv_c _ _ _ _ _ ?kx ?kp) ?k1 ?k2 ?k3 ?k4 ?k5 ?kK ?kd ?ku trivial ?_; (case kx => walk_at "my len"); (case kp => walk_at "my print"); (((case k1 => k_asm); (case k2 => k_asm); (case k3 => k_asm); (case k4 => k_asm); (case k5 => k_asm); (case kK => first | exact rfl | assumption); (case kd => ktr_room); (case ku => ktr_units)))); intro v99z h99z tk99z F99z N99z e99z; (cases e99z); (try dsimp only); (try k_fold)) | with_reducible (k_here; (with_reducible show wpAny _ _ (call (Value.builtin "re.Pattern.search") [Value.ref 53, Value.str _ _]) _ _ _); k_dflt (refine' re_search (code := valueCode) ?k1 ?k2 ?k3 ?k4 ?k5 ?k6 ?k7 ?_; (case k1 => k_asm); (case k2 => k_asm); (case k3 => k_is); (case k4 => k_is); (case k5 => decide +kernel); (case k6 => assumption); (case k7 => exact value_fails (by assumption)))) | with_reducible (k_here; (with_reducible show wpAny _ _ (call (Value.builtin "re.Pattern.search") [Value.ref 48, Value.str _ _]) _ _ _); k_dflt (refine' re_search (code := nameCode) ?k1 ?k2 ?k3 ?k4 ?k5 ?k6 ?k7 ?_; (case k1 => k_asm); (case k2 => k_asm); (case k3 => k_is); (case k4 => k_is); (case k5 => decide +kernel); (case k6 => assumption); (case k7 => exact name_fails (by assumption)))) | with_reducible (k_here; (with_reducible show wpAny _ _ (getMethod (Value.ref _) (Str.ofString "search") _) _ _ _); k_dflt (refine' re_method ?k1 ?k2 ?k3 ?_; (case k1 => k_asm); (case k2 => k_asm); (case k3 => k_is))) | with_reducible (k_here; (with_reducible show wpAny _ _ (call (Value.builtin "str.join") [Value.str _ _, Value.ref _]) _ _ _); (with_reducible rename StrsAre _ _ => hSt99z); k_dflt (refine' join_listW (ys := ?ys) ?k1 ?k2 ?k3 ?k4 ?_; (case k1 => exact News.isList (by k_asm) (by k_mem)); (case k2 => simpa using hSt99z); (case k3 => decide); (case k4 => first | omega | (simp only [] at *; omega))); intro t99z k99z) | with_reducible (k_here; (with_reducible show wpAny _ _ (truthy (Value.ref _)) _ _ _); (with_reducible rename StrsAre _ _ => hSt99z); k_dflt (refine' txt_truthy ?N ?m hSt99z ?z ?_; (case N => k_asm); (case m => k_mem); (case z => first | omega | (simp only [List.length_append, List.length_cons, List.length_nil]; omega)))) | with_reducible (k_here; (with_reducible show wpAny _ _ (subscriptTail _ _ (Value.ref _) (Value.int (-1) _)) _ _ _); (with_reducible rename StrsAre _ _ => hSt99z); k_dflt (refine' txt_last ?N ?m hSt99z ?l ?_ ?z; (case N => k_asm); (case m => k_mem); (case l => with_reducible assumption); (case z => with_unfolding_all rfl)); intro y99z t99z e99z) | with_reducible (k_here; (with_reducible show wpAny _ _ (call (Value.builtin _) [Value.ref _]) _ _ _); (with_reducible rename StrsAre _ _ => hSt99z); k_dflt (refine' txt_pop ?F ?N ?U hSt99z ?l ?z ?_; (case F => k_asm); (case N => k_asm); (case U => k_upd); (case l => assumption); (case z => omega)); intro h9z y9z t9z F9z N9z hI9z) | with_reducible (k_here; (with_reducible show wpAny _ _ (call (Value.builtin "str.split") _) _ _ _); refine KSpl.split1 (by k_asm) (by k_asm) (by decide) ?_ (by (first | exact split_fits (by assumption) | exact split_fits (Nat.le_trans (restOf_le _) (by assumption)))); intro D9z l9z h9z k9z e9z a9z F9z N9z l19z; (try k_lt l19z)) | with_reducible (k_here; (with_reducible show wpAny _ _ (call (Value.ref 273) [Value.str _ _]) _ _ _); k_dflt (refine' Pure.use' (splitroot_c _ _ _ ?kx) ?k1 ?k2 ?k3 ?k4 ?k5 ?kK ?kd ?ku trivial ?_; (case kx => walk_at "my len"); (((case k1 => k_asm); (case k2 => k_asm); (case k3 => k_asm); (case k4 => k_asm); (case k5 => k_asm); (case kK => first | exact rfl | assumption); (case kd => ktr_room); (case ku => ktr_units)))); intro v99z h99z tk99z F99z N99z f99z e99z; (obtain ⟨D99z, t99z, u99z, w99z, e99z, g99z, n99z⟩ := e99z); (cases e99z); (replace N99z := news_fresh f99z N99z g99z n99z); (clear f99z g99z n99z); (try dsimp only); (try k_fold)) | with_reducible (k_here; (with_reducible show wpAny _ _ (call (Value.ref 193) [Value.str _ _]) _ _ _); k_dflt (refine' Pure.use (get_sep_c _ _ _) ?k1 ?k2 ?k3 ?k4 ?k5 ?kK ?kd ?ku trivial ?_; (((case k1 => k_asm); (case k2 => k_asm); (case k3 => k_asm); (case k4 => k_asm); (case k5 => k_asm); (case kK => first | exact rfl | assumption); (case kd => ktr_room); (case ku => ktr_units)))); intro v99z h99z tk99z F99z N99z e99z; (obtain ⟨t99z, e99z⟩ := e99z); (cases e99z); (try dsimp only); (try k_fold)) | with_reducible (k_here; (with_reducible show wpAny _ _ (call (Value.ref 266) [Value.str _ _]) _ _ _); k_dflt (refine' Pure.use (fspath_c _ _ _) ?k1 ?k2 ?k3 ?k4 ?k5 ?kK ?kd ?ku trivial ?_; (((case k1 => k_asm); (case k2 => k_asm); (case k3 => k_asm); (case k4 => k_asm); (case k5 => k_asm); (case kK => first | exact rfl | assumption); (case kd => ktr_room); (case ku => ktr_units)))); intro v99z h99z tk99z F99z N99z e99z; (cases e99z); (try dsimp only); (try k_fold)) | walk1 | (dsimp only; walk1) | (leave1; walk_say "STEP leave1"; try dsimp only))
  unfold Hold
  rename News _ _ _ _ => nN
  refine eq_texts (News.isList nN (.tail _ (.head _))) (News.isList nN (.head _)) (.cons _ _ (.cons _ _ (.cons _ _ (.cons _ _ (.cons _ _ .nil))))) (.cons _ _ (.cons _ _ (.cons _ _ (.cons _ _ (.cons _ _ .nil))))) end_vals ends_ok (by ke_room) ?_
  repeat' ((fail_if_success (with_reducible show GoodW _ _ _ _ _ _ _)); first | (k_unfold; (try dsimp only)) | walk1 | (dsimp only; walk1) | (leave1; walk_say "STEP leave1"; try dsimp only))
  rename Fr _ _ _ _ => fEnd
  refine goodW_bool fEnd ?hg ?hn ?hp ?ho
  case hg => assumption
  case hn => intro _; rfl
  case hp => exact post_true _
  case ho => rfl
  (all_goals (try k_data)))
end

end Mine
theorem PySem.Challenge.cw_ny0294_01_holds : PySem.Challenge.rw_ny0294_01.Holds :=
  Mine.holds

