import PyProof.Rows.All
import Wide.All
import OpenK.AllK
import Wide.FinOn
import PySem.Challenge.RW_re0169_01
open PySem PySem.W PyProof.Rows
set_option Elab.async true
set_option maxRecDepth 100000
set_option maxHeartbeats 8000000
set_option rowWalk.seconds 0
set_option compiler.extract_closed false
namespace Mine
/- idle names: where one of these stands, the head makes no twin of that constant of its own (the twins' equations would fill the compiled file) -/
theorem head.tw6474009502463322548 : True := trivial
theorem head.tw13335025841360890868 : True := trivial
theorem head.tw1919001801439425371 : True := trivial
theorem head.tw13412022041919118725 : True := trivial
theorem head.tw17579826867990701997 : True := trivial
theorem head.tw14326179776068990251 : True := trivial
theorem head.tw8390636374581242146 : True := trivial
theorem head.tw11046089068661602497 : True := trivial
theorem head.tw16604415049855158431 : True := trivial
theorem head.tw4465704467177643329 : True := trivial
theorem head.tw3905473140642603811 : True := trivial
theorem head.tw5401097623525119610 : True := trivial
theorem head.tw16212550141715871497 : True := trivial
theorem head.tw69809265629811306 : True := trivial
theorem head.tw11426403942048686318 : True := trivial
theorem head.tw17525636777796739105 : True := trivial
theorem head.tw17646911460466567920 : True := trivial
theorem head.tw10668533816033670360 : True := trivial
theorem head.tw2554682012703037696 : True := trivial
theorem head.tw5141380973458375857 : True := trivial
theorem head.tw16874305072444578374 : True := trivial
theorem head.tw6490296386705211140 : True := trivial
theorem head.tw6737735255597943219 : True := trivial
theorem head.tw5723944856813171866 : True := trivial
theorem head.tw14676189674455941282 : True := trivial
theorem head.tw17312431094565309094 : True := trivial
theorem head.tw8997269238129315039 : True := trivial
theorem head.tw44622916816846810 : True := trivial
theorem head.tw2400818531096893172 : True := trivial
theorem head.tw5346772772824661884 : True := trivial
theorem head.tw14667470093908496907 : True := trivial
theorem head.tw16800043278716471037 : True := trivial
theorem head.tw15510365090734361527 : True := trivial
theorem head.tw2611935402230173564 : True := trivial
theorem head.tw6100774026682323163 : True := trivial
theorem head.tw5906749814970224870 : True := trivial
theorem head.tw9325057278558614444 : True := trivial
theorem head.tw13295774097974887486 : True := trivial
theorem head.tw12998212659555988865 : True := trivial
theorem head.tw587121490752477604 : True := trivial
theorem head.tw362159924006681238 : True := trivial
theorem head.tw9827913525700040407 : True := trivial
theorem head.tw1211024037004892549 : True := trivial
theorem head.tw10898857373019930491 : True := trivial
theorem head.tw4857777746444614323 : True := trivial
theorem head.tw649443455394278489 : True := trivial
theorem head.tw13510609219080548989 : True := trivial
theorem head.tw17142359554024780413 : True := trivial
theorem head.tw1748456618969930982 : True := trivial
theorem head.tw5927865893512547691 : True := trivial
theorem head.tw14744981736328886265 : True := trivial
theorem head.tw10504981510240967646 : True := trivial
theorem head.tw7658410731251134818 : True := trivial
theorem head.tw12147184966966947637 : True := trivial
theorem head.tw17674571679781333832 : True := trivial
theorem head.tw15895551434495452948 : True := trivial
theorem head.tw12858780395421280599 : True := trivial
theorem head.tw466721876749952763 : True := trivial
theorem head.tw8097174177036852075 : True := trivial
theorem head.tw37620276538422747 : True := trivial
theorem head.tw6836605351468522007 : True := trivial
theorem head.tw5479459121986351116 : True := trivial
theorem head.tw7013799640231393816 : True := trivial
theorem head.tw16050388347410925577 : True := trivial
theorem head.tw7090939061502383884 : True := trivial
theorem head.tw2694075680205673411 : True := trivial
theorem head.tw1495726902847802894 : True := trivial
theorem head.tw1463646239528298992 : True := trivial
theorem head.tw10366927770000222440 : True := trivial
theorem head.tw7253898381062576733 : True := trivial
theorem head.tw17905491414393134947 : True := trivial
theorem head.tw5140934472235413692 : True := trivial
theorem head.tw16984083398119652359 : True := trivial
theorem head.tw8382746154173761051 : True := trivial
theorem head.tw17619409864816609055 : True := trivial
theorem head.tw17464823870196871000 : True := trivial
theorem head.tw2249667046024356820 : True := trivial
theorem head.tw12043669396524033845 : True := trivial
theorem head.tw3083302935323014018 : True := trivial
theorem head.tw14643560169476415855 : True := trivial
theorem head.tw5487235932777146282 : True := trivial
theorem head.tw3368030927266983236 : True := trivial
theorem head.tw9196398404247428943 : True := trivial
theorem head.tw12207028300977255130 : True := trivial
theorem head.tw3356082689604606797 : True := trivial
theorem head.tw9083612298779875492 : True := trivial
theorem head.tw18123143868385100064 : True := trivial
theorem head.tw820421773197932041 : True := trivial
theorem head.tw10706776884845955466 : True := trivial
theorem head.tw10018764681926925449 : True := trivial
theorem head.tw70090929366303766 : True := trivial
theorem head.tw9251545996854613125 : True := trivial
theorem head.tw4945251732147069371 : True := trivial
theorem head.tw14512941343882779238 : True := trivial
theorem head.tw2717208847683956309 : True := trivial
theorem head.tw10957180678049773753 : True := trivial
theorem head.tw8908391491709239787 : True := trivial
theorem head.tw12775505166333009402 : True := trivial
theorem head.tw9820158181544301314 : True := trivial
theorem head.tw12074249297620881909 : True := trivial
theorem head.tw4307260679431091991 : True := trivial
theorem head.tw14417885227837004991 : True := trivial
theorem head.tw7417405269818204032 : True := trivial
theorem head.tw9716329373054682134 : True := trivial
theorem head.tw12398312691204496596 : True := trivial
theorem head.tw3715584954343283195 : True := trivial
theorem head.tw13958067486993825360 : True := trivial
theorem head.tw17275705279478898512 : True := trivial
theorem head.tw4433315090154635215 : True := trivial
theorem head.tw3088210815446039105 : True := trivial
theorem head.tw15487638686976844055 : True := trivial
theorem head.tw10730805705081004914 : True := trivial
theorem head.tw6079359036626576793 : True := trivial
theorem head.tw4746297304354101679 : True := trivial
theorem head.tw15326552575505426906 : True := trivial
theorem head.tw2518057956044344595 : True := trivial
theorem head.tw2340069552987342377 : True := trivial
theorem head.tw48543519692965452 : True := trivial
theorem head.tw7994106446794305319 : True := trivial
theorem head.tw10987702880554017565 : True := trivial
theorem head.tw6202090305015876224 : True := trivial
theorem head.tw17173245716831642929 : True := trivial
theorem head.tw12987040726578829979 : True := trivial
theorem head.tw9388430590476628193 : True := trivial
theorem head.tw17017319662998615 : True := trivial
theorem head.tw14527164170590304321 : True := trivial
theorem head.tw10544064009108086568 : True := trivial
theorem head.tw10258521583956687137 : True := trivial
theorem head.tw17854896373637125580 : True := trivial
theorem head.tw14195316510222423288 : True := trivial
theorem head.tw17577399041416155939 : True := trivial
theorem head.tw11296743742662292762 : True := trivial
theorem head.tw12903917746401883607 : True := trivial
theorem head.tw15035418422258542911 : True := trivial
theorem head.tw7876399200375917224 : True := trivial
theorem head.tw2260579728952749127 : True := trivial
theorem head.tw2525317073905713282 : True := trivial
theorem head.tw13906610036690215845 : True := trivial
theorem head.tw11124748197601291601 : True := trivial
theorem head.tw5187041380464763778 : True := trivial
theorem head.tw9162278640276766204 : True := trivial
theorem head.tw16847831306532103052 : True := trivial
theorem head.tw1212124681294104184 : True := trivial
theorem head.tw3869590956505411354 : True := trivial
theorem head.tw7680146299302783591 : True := trivial
theorem head.tw3746228215898030841 : True := trivial
theorem head.tw9186546921256032858 : True := trivial
theorem head.tw17888318370730626389 : True := trivial
theorem head.tw17789423225533864492 : True := trivial
theorem head.tw14843749296085226474 : True := trivial
theorem head.tw7712916153251135833 : True := trivial
theorem head.tw5760256604620287586 : True := trivial
theorem head.tw17297054508065495485 : True := trivial
theorem head.tw7928285938522686346 : True := trivial
theorem head.tw3690969761935527329 : True := trivial
theorem head.tw15539854500240908086 : True := trivial
theorem head.tw12478146576626367362 : True := trivial
theorem head.tw4976181008148175253 : True := trivial
theorem head.tw11434997419882176723 : True := trivial
theorem head.tw4009957668330374740 : True := trivial
theorem head.tw4972248218790579157 : True := trivial
theorem head.tw14999265807660949796 : True := trivial
theorem head.tw5508695066786827253 : True := trivial
theorem head.tw8185714761375850791 : True := trivial
theorem head.tw4764554697811233 : True := trivial
theorem head.tw8866670633112419022 : True := trivial
theorem head.tw4160124254940468481 : True := trivial
theorem head.tw10812213935944405949 : True := trivial
theorem head.tw12352672977532951062 : True := trivial
theorem head.tw16997897962222511 : True := trivial
theorem head.tw6121141971511671821 : True := trivial
theorem head.tw15506723302920939300 : True := trivial
theorem head.tw3103639331685909893 : True := trivial
theorem head.tw13988103294471073821 : True := trivial
theorem head.tw8603420104599213669 : True := trivial
theorem head.tw14982685227137828758 : True := trivial
theorem head.tw15296082917334920728 : True := trivial
theorem head.tw3496171461512900480 : True := trivial
theorem head.tw16640130746408290383 : True := trivial
theorem head.tw3944913497352057107 : True := trivial
theorem head.tw6507506987150044280 : True := trivial
theorem head.tw6857060684267632606 : True := trivial
theorem head.tw16172288393029767808 : True := trivial
theorem head.tw17725469503822016867 : True := trivial
theorem head.tw6587087628758450585 : True := trivial
theorem head.tw4965378191221513410 : True := trivial
theorem head.tw17243387458012846398 : True := trivial
theorem head.tw3794523003379204399 : True := trivial
theorem head.tw14842460003800876886 : True := trivial
theorem head.tw17826015225549371706 : True := trivial
theorem head.tw17508272824862286709 : True := trivial
theorem head.tw9407594320385231609 : True := trivial
theorem head.tw5438144065070405397 : True := trivial
theorem head.tw15037083628117588352 : True := trivial
theorem head.tw15895748673760503845 : True := trivial
theorem head.tw6772502638888315869 : True := trivial
theorem head.tw4607607821588926596 : True := trivial
theorem head.tw11628534518673281344 : True := trivial
theorem head.tw300626226527484142 : True := trivial
theorem head.tw2237326684586592538 : True := trivial
theorem head.tw14943480678444902952 : True := trivial
theorem head.tw10323852489131834650 : True := trivial
theorem head.tw14679116673082234219 : True := trivial
theorem head.tw9515422150858430662 : True := trivial
theorem head.tw7906546307943345882 : True := trivial
theorem head.tw9103479521544129834 : True := trivial
theorem head.tw10261356005730403935 : True := trivial
theorem head.tw5111174896325423537 : True := trivial
theorem head.tw12475708393154427166 : True := trivial
theorem head.tw12822298378996975857 : True := trivial
theorem head.tw11692735721529064706 : True := trivial
theorem head.tw6053349399257934933 : True := trivial
theorem head.tw1909714482019496454 : True := trivial
theorem head.tw15149402430504572791 : True := trivial
theorem head.tw2728595385866086531 : True := trivial
theorem head.tw12310735299239354703 : True := trivial
theorem head.tw11427066125472700054 : True := trivial
theorem head.tw12740806245664736207 : True := trivial
theorem head.tw17002534310236347988 : True := trivial
theorem head.tw7450023128482652576 : True := trivial
theorem head.tw4964814941381164201 : True := trivial
theorem head.tw467416434755642258 : True := trivial
theorem head.tw11862927689305589065 : True := trivial
theorem head.tw8912104118211102971 : True := trivial
theorem head.tw9984397402777080727 : True := trivial
theorem head.tw8187629637223713605 : True := trivial
theorem head.tw12604462930493870256 : True := trivial
theorem head.tw14139502460874162764 : True := trivial
theorem head.tw1506576300011279404 : True := trivial
theorem head.tw13199516396595161752 : True := trivial
theorem head.tw5141578139466067413 : True := trivial
theorem head.tw11821203517306503961 : True := trivial
theorem head.tw5599997604879368025 : True := trivial
theorem head.tw16659920880120507502 : True := trivial
theorem head.tw3973953319845086491 : True := trivial
theorem head.tw4063747431996464497 : True := trivial
theorem head.tw8402214883040486957 : True := trivial
theorem head.tw14205479233844494046 : True := trivial
theorem head.tw16817119741492734445 : True := trivial
theorem head.tw8101760021730824546 : True := trivial
theorem head.tw1992862871153497056 : True := trivial
theorem head.tw13986843968525588388 : True := trivial
theorem head.tw4975070653579243887 : True := trivial
theorem head.tw12364624919760631829 : True := trivial
theorem head.tw10079960370226730655 : True := trivial
theorem head.tw8652809202198645512 : True := trivial
theorem head.tw5236236172720813598 : True := trivial
theorem head.tw7313386461004707312 : True := trivial
theorem head.tw6161856959107265637 : True := trivial
theorem head.tw12865059321931465230 : True := trivial
theorem head.tw17608190574486352970 : True := trivial
theorem head.tw9062998866958442273 : True := trivial
theorem head.tw18433677622606106133 : True := trivial
theorem head.tw6846866878297920324 : True := trivial
theorem head.tw15112835437128306455 : True := trivial
theorem head.tw11544532188706048022 : True := trivial
theorem head.tw9101448428047585222 : True := trivial
theorem head.tw12472887615940459650 : True := trivial
theorem head.tw14492117785962260688 : True := trivial
theorem head.tw3991279037241028524 : True := trivial
theorem head.tw4381510469713062047 : True := trivial
theorem head.tw3547240966391284428 : True := trivial
theorem head.tw11005904730967762025 : True := trivial
theorem head.tw2879759524354350568 : True := trivial
theorem head.tw11484358847640170188 : True := trivial
theorem head.tw5506250874072839755 : True := trivial
theorem head.tw1499353310998574721 : True := trivial
theorem head.tw7661765248129044261 : True := trivial
theorem head.tw10015159338476511836 : True := trivial
theorem head.tw733406405333840765 : True := trivial
theorem head.tw5797013207949663412 : True := trivial
theorem head.tw10010264046613662565 : True := trivial
theorem head.tw12892129938458570674 : True := trivial
theorem head.tw15468718075485040107 : True := trivial
theorem head.tw3501597964444990463 : True := trivial
/-- the head: run once; what it makes stands under this name, and the lemma that the law follows from its walk -/
theorem head : True := by
  clear head
  guard_expr (?theWalkAhead : _) =ₛ (?theWalkAhead : _)
  refine' (?f : PySem.Challenge.rw_re0169_01.Holds → True) ?M
  case M =>
    as_aux_lemma =>
      w_on
      o_law
      as_aux_lemma =>
        k_head
        case hw => w_witness2
        exact ?theWalkAhead
  case f => exact fun _ => trivial
end Mine

section
open PySem PySem.W PyProof.Rows
set_option maxRecDepth 100000
namespace Mine
noncomputable abbrev Led := List (Addr × Obj)
noncomputable abbrev looseL : List Str := [Str.ofString "EXACT_TOKEN_TYPES", Str.ofString "tspecials", Str.ofString "_name_disallowed_re",
      Str.ofString "_value_disallowed_re", Str.ofString "_formatparam", Str.ofString "Headers", Str.ofString "_sre"]
theorem loose_eq : looseW Mine.head.view_1_40 [Str.ofString "EXACT_TOKEN_TYPES", Str.ofString "tspecials", Str.ofString "_name_disallowed_re", Str.ofString "_value_disallowed_re", Str.ofString "_formatparam"] = looseL := by decide +kernel

/-- a contract: the def at address f, called so over the ledger news, ends with post of its answer and the ledger behind it -/
noncomputable def ConK (d : Nat) (w : World) (f : Addr) (vs : List Value) (kw : List (Str × Value)) (news : Led) (post : Value → Led → Prop) : Prop :=
  ∀ (mean : ExcName → Option Value) (mg mb : Str → Option Value) (dp un : Nat) (gd : Option (List Code)) (cn : Str) (cs : Scope) (a : Addr) (ccd : Value) (cl : List (Str × Addr)) (outer : List Env) (A₀ : Around) (base h₀ : Heap) (L : Addr) (m : Str → Option Value) (s : Shared) (Q E : Value → Shared → Prop),
    Below A₀ base outer h₀ → Fr h₀ L s.heap m → (Mine.head.heap_1_39 w.params).In h₀ → News h₀ L s.heap news → Top Mine.head.view_1_40 looseL mean mg mb h₀ → cs.kind = .function → dp + d < recursionLimit → un + 20 * d < cLine →
    (∀ (r : Value) (news' : Led) (h' : Heap) (tk' : Nat), Fr h₀ L h' m → News h₀ L h' news' → post r news' → Q r { s with heap := h', toks := tk' }) →
    wpAny (model PySem.Challenge.pw_re0169_01 w) (ktrTop dp un gd cn cs L a ccd cl outer) (call (.ref f) vs kw) Q E s
noncomputable abbrev Con (d : Nat) (w : World) (f : Addr) (vs : List Value) (news : Led) (post : Value → Led → Prop) : Prop := ConK d w f vs [] news post

theorem ConK.use {d : Nat} {w : World} {f : Addr} {vs : List Value} {kw : List (Str × Value)} {news : Led} {post : Value → Led → Prop} (C : ConK d w f vs kw news post)
    {mean : ExcName → Option Value} {mg mb : Str → Option Value} {dp un : Nat} {gd : Option (List Code)} {cn : Str} {cs : Scope} {a : Addr} {ccd : Value} {cl : List (Str × Addr)} {outer : List Env} {A₀ : Around} {base h₀ : Heap} {L : Addr} {m : Str → Option Value} {s : Shared} {Q E : Value → Shared → Prop}
    (B : Below A₀ base outer h₀) (F : Fr h₀ L s.heap m) (X : (Mine.head.heap_1_39 w.params).In h₀) (N : News h₀ L s.heap news) (T : Top Mine.head.view_1_40 looseL mean mg mb h₀) (hk : cs.kind = .function) (hdp : dp + d < recursionLimit) (hun : un + 20 * d < cLine)
    (hret : ∀ (r : Value) (news' : Led) (h' : Heap) (tk' : Nat), Fr h₀ L h' m → News h₀ L h' news' → post r news' → Q r { s with heap := h', toks := tk' }) :
    wpAny (model PySem.Challenge.pw_re0169_01 w) (ktrTop dp un gd cn cs L a ccd cl outer) (call (.ref f) vs kw) Q E s :=
  C mean mg mb dp un gd cn cs a ccd cl outer A₀ base h₀ L m s Q E B F X N T hk hdp hun hret
theorem ConK.usa {d : Nat} {w : World} {f : Addr} {vs : List Value} {kw : List (Str × Value)} {news : Led} {post : Value → Led → Prop} (C : ConK d w f vs kw news post)
    {mean : ExcName → Option Value} {mg mb : Str → Option Value} {dp un : Nat} {gd : Option (List Code)} {cn : Str} {cs : Scope} {a : Addr} {ccd : Value} {cl : List (Str × Addr)} {outer : List Env} {A₀ : Around} {base h₀ : Heap} {L : Addr} {m : Str → Option Value} {s : Shared} {Q E : Value → Shared → Prop}
    (hret : ∀ (r : Value) (news' : Led) (h' : Heap) (tk' : Nat), Fr h₀ L h' m → News h₀ L h' news' → post r news' → Q r { s with heap := h', toks := tk' })
    (B : Below A₀ base outer h₀ := by k_asm) (F : Fr h₀ L s.heap m := by k_asm) (X : (Mine.head.heap_1_39 w.params).In h₀ := by k_asm) (N : News h₀ L s.heap news := by k_asm) (T : Top Mine.head.view_1_40 looseL mean mg mb h₀ := by k_asm) (hk : cs.kind = .function := by first | exact rfl | assumption) (hdp : dp + d < recursionLimit := by ktr_room) (hun : un + 20 * d < cLine := by ktr_units) :
    wpAny (model PySem.Challenge.pw_re0169_01 w) (ktrTop dp un gd cn cs L a ccd cl outer) (call (.ref f) vs kw) Q E s :=
  C mean mg mb dp un gd cn cs a ccd cl outer A₀ base h₀ L m s Q E B F X N T hk hdp hun hret
noncomputable def fillT (l : OpenLaw) (k : Params → Frag) : Prop := l = l ∧ k = k
end Mine
end

section
open PySem PySem.W PyProof.Rows PySem.Spec PyProof.V
set_option maxRecDepth 100000
namespace Mine

/-- the object at d may be turned, whatever to -/
noncomputable def UpdAll (d : Addr) (o : Obj) (news : Led) (g : Obj → Led) : Prop := ∀ o', Upd d o o' news (g o')
theorem UpdAll.at {d : Addr} {o o' : Obj} {news : Led} {g : Obj → Led} (h : UpdAll d o news g) : Upd d o o' news (g o') := h o'
noncomputable abbrev tup2 (x : Str) (t : Tok) (y : Str) (u : Tok) : Obj := { cls := .type "tuple", data := .seq #[.str x t, .str y u] }
/-- an entry of a table of headers: the tuple's address, name, value -/
structure Ent where
  a : Addr
  n : Str
  tn : Tok
  v : Str
  tv : Tok
noncomputable def hvals (es : List Ent) : List Value := es.map fun e => Value.ref e.a
noncomputable def EntsIn (news : Led) (es : List Ent) : Prop := ∀ e ∈ es, (e.a, tup2 e.n e.tn e.v e.tv) ∈ news
theorem EntsIn.mono {news news' : Led} {es : List Ent} (h : EntsIn news es) (hs : ∀ p ∈ news, p ∈ news') : EntsIn news' es := fun e he => hs _ (h e he)
theorem hvals_get {es : List Ent} {i : Nat} {v : Value} (h : (hvals es)[i]? = some v) : ∃ e, es[i]? = some e ∧ v = .ref e.a := by
  unfold hvals at h
  rw [List.getElem?_map] at h
  cases q : es[i]? with
  | none => rw [q] at h; cases h
  | some e => rw [q] at h; cases h; exact ⟨e, rfl, rfl⟩
theorem hvals_length {es : List Ent} : (hvals es).length = es.length := by unfold hvals; simp
/-- a step drawn: a tuple of four texts -/
structure Row where
  a : Addr
  b : Str
  d : Str
  sg : Str
  g : Str
  t1 : Tok
  t2 : Tok
  t3 : Tok
  t4 : Tok
noncomputable abbrev tup4 (r : Row) : Obj := { cls := .type "tuple", data := .seq #[.str r.b r.t1, .str r.d r.t2, .str r.sg r.t3, .str r.g r.t4] }
noncomputable def rvals (rs : List Row) : List Value := rs.map fun r => Value.ref r.a
noncomputable def RowsIn (news : Led) (rs : List Row) : Prop := ∀ r ∈ rs, (r.a, tup4 r) ∈ news
theorem rvals_get {es : List Row} {i : Nat} {v : Value} (h : (rvals es)[i]? = some v) : ∃ e, es[i]? = some e ∧ v = .ref e.a := by
  unfold rvals at h
  rw [List.getElem?_map] at h
  cases q : es[i]? with
  | none => rw [q] at h; cases h
  | some e => rw [q] at h; cases h; exact ⟨e, rfl, rfl⟩
theorem rvals_length {es : List Row} : (rvals es).length = es.length := by unfold rvals; simp
structure Stop (p : Prop) : Prop where
  out : p
theorem stopAt {p : Prop} (h : Stop p) : p := h.out

section
variable {prog : Program} {w : World} {A : Around} {E : Value → Shared → Prop} {s : Shared} {env : Env} {h₀ : Heap} {target : Expr} {body : List Stmt} {Q : Flow → Shared → Prop}

theorem know {L : Addr} {h : Heap} {m : Str → Option Value} {x : Str} {v : Value} (F : Fr h₀ L h m) (e : m x = some v) : Fr h₀ L h (fun y => if y = x then some v else m y) := by
  have : m = fun y => if y = x then some v else m y := by
    funext y
    by_cases q : y = x
    · rw [if_pos q, q, e]
    · rw [if_neg q]
  rw [← this]; exact F
theorem know2 {L : Addr} {h : Heap} {m : Str → Option Value} {x1 x2 : Str} {v1 v2 : Value} (F : Fr h₀ L h m) (e1 : m x1 = some v1) (e2 : m x2 = some v2) : Fr h₀ L h (fun y => if y = x1 then some v1 else if y = x2 then some v2 else m y) := by
  have : m = fun y => if y = x1 then some v1 else if y = x2 then some v2 else m y := by
    funext y
    repeat' split
    all_goals (first | (rename_i q; subst q; assumption) | rfl)
  rw [← this]; exact F
theorem know3 {L : Addr} {h : Heap} {m : Str → Option Value} {x1 x2 x3 : Str} {v1 v2 v3 : Value} (F : Fr h₀ L h m) (e1 : m x1 = some v1) (e2 : m x2 = some v2) (e3 : m x3 = some v3) : Fr h₀ L h (fun y => if y = x1 then some v1 else if y = x2 then some v2 else if y = x3 then some v3 else m y) := by
  have : m = fun y => if y = x1 then some v1 else if y = x2 then some v2 else if y = x3 then some v3 else m y := by
    funext y
    repeat' split
    all_goals (first | (rename_i q; subst q; assumption) | rfl)
  rw [← this]; exact F
theorem know4 {L : Addr} {h : Heap} {m : Str → Option Value} {x1 x2 x3 x4 : Str} {v1 v2 v3 v4 : Value} (F : Fr h₀ L h m) (e1 : m x1 = some v1) (e2 : m x2 = some v2) (e3 : m x3 = some v3) (e4 : m x4 = some v4) : Fr h₀ L h (fun y => if y = x1 then some v1 else if y = x2 then some v2 else if y = x3 then some v3 else if y = x4 then some v4 else m y) := by
  have : m = fun y => if y = x1 then some v1 else if y = x2 then some v2 else if y = x3 then some v3 else if y = x4 then some v4 else m y := by
    funext y
    repeat' split
    all_goals (first | (rename_i q; subst q; assumption) | rfl)
  rw [← this]; exact F
theorem know5 {L : Addr} {h : Heap} {m : Str → Option Value} {x1 x2 x3 x4 x5 : Str} {v1 v2 v3 v4 v5 : Value} (F : Fr h₀ L h m) (e1 : m x1 = some v1) (e2 : m x2 = some v2) (e3 : m x3 = some v3) (e4 : m x4 = some v4) (e5 : m x5 = some v5) : Fr h₀ L h (fun y => if y = x1 then some v1 else if y = x2 then some v2 else if y = x3 then some v3 else if y = x4 then some v4 else if y = x5 then some v5 else m y) := by
  have : m = fun y => if y = x1 then some v1 else if y = x2 then some v2 else if y = x3 then some v3 else if y = x4 then some v4 else if y = x5 then some v5 else m y := by
    funext y
    repeat' split
    all_goals (first | (rename_i q; subst q; assumption) | rfl)
  rw [← this]; exact F
theorem know6 {L : Addr} {h : Heap} {m : Str → Option Value} {x1 x2 x3 x4 x5 x6 : Str} {v1 v2 v3 v4 v5 v6 : Value} (F : Fr h₀ L h m) (e1 : m x1 = some v1) (e2 : m x2 = some v2) (e3 : m x3 = some v3) (e4 : m x4 = some v4) (e5 : m x5 = some v5) (e6 : m x6 = some v6) : Fr h₀ L h (fun y => if y = x1 then some v1 else if y = x2 then some v2 else if y = x3 then some v3 else if y = x4 then some v4 else if y = x5 then some v5 else if y = x6 then some v6 else m y) := by
  have : m = fun y => if y = x1 then some v1 else if y = x2 then some v2 else if y = x3 then some v3 else if y = x4 then some v4 else if y = x5 then some v5 else if y = x6 then some v6 else m y := by
    funext y
    repeat' split
    all_goals (first | (rename_i q; subst q; assumption) | rfl)
  rw [← this]; exact F
theorem know7 {L : Addr} {h : Heap} {m : Str → Option Value} {x1 x2 x3 x4 x5 x6 x7 : Str} {v1 v2 v3 v4 v5 v6 v7 : Value} (F : Fr h₀ L h m) (e1 : m x1 = some v1) (e2 : m x2 = some v2) (e3 : m x3 = some v3) (e4 : m x4 = some v4) (e5 : m x5 = some v5) (e6 : m x6 = some v6) (e7 : m x7 = some v7) : Fr h₀ L h (fun y => if y = x1 then some v1 else if y = x2 then some v2 else if y = x3 then some v3 else if y = x4 then some v4 else if y = x5 then some v5 else if y = x6 then some v6 else if y = x7 then some v7 else m y) := by
  have : m = fun y => if y = x1 then some v1 else if y = x2 then some v2 else if y = x3 then some v3 else if y = x4 then some v4 else if y = x5 then some v5 else if y = x6 then some v6 else if y = x7 then some v7 else m y := by
    funext y
    repeat' split
    all_goals (first | (rename_i q; subst q; assumption) | rfl)
  rw [← this]; exact F
theorem know8 {L : Addr} {h : Heap} {m : Str → Option Value} {x1 x2 x3 x4 x5 x6 x7 x8 : Str} {v1 v2 v3 v4 v5 v6 v7 v8 : Value} (F : Fr h₀ L h m) (e1 : m x1 = some v1) (e2 : m x2 = some v2) (e3 : m x3 = some v3) (e4 : m x4 = some v4) (e5 : m x5 = some v5) (e6 : m x6 = some v6) (e7 : m x7 = some v7) (e8 : m x8 = some v8) : Fr h₀ L h (fun y => if y = x1 then some v1 else if y = x2 then some v2 else if y = x3 then some v3 else if y = x4 then some v4 else if y = x5 then some v5 else if y = x6 then some v6 else if y = x7 then some v7 else if y = x8 then some v8 else m y) := by
  have : m = fun y => if y = x1 then some v1 else if y = x2 then some v2 else if y = x3 then some v3 else if y = x4 then some v4 else if y = x5 then some v5 else if y = x6 then some v6 else if y = x7 then some v7 else if y = x8 then some v8 else m y := by
    funext y
    repeat' split
    all_goals (first | (rename_i q; subst q; assumption) | rfl)
  rw [← this]; exact F
theorem strValues_get {l : List (Str × Tok)} {i : Nat} {v : Value} (h : (strValues l)[i]? = some v) : ∃ x t, v = .str x t ∧ (l.map (·.1))[i]? = some x := by
  unfold strValues at h
  rw [List.getElem?_map] at h
  cases e : l[i]? with
  | none => rw [e] at h; cases h
  | some p => rw [e] at h; cases h; exact ⟨_, _, rfl, by rw [List.getElem?_map, e]; rfl⟩
theorem strValues_length {l : List (Str × Tok)} : (strValues l).length = l.length := by unfold strValues; simp
theorem strValues_append {a b : List (Str × Tok)} : strValues (a ++ b) = strValues a ++ strValues b := by unfold strValues; simp
theorem take_snoc {α : Type} {l : List α} {i : Nat} {x : α} (h : l[i]? = some x) : l.take (i + 1) = l.take i ++ [x] := by rw [List.take_add_one, h]; rfl
theorem drop_at {α : Type} {l : List α} {i : Nat} {x : α} (h : l[i]? = some x) : l.drop i = x :: l.drop (i + 1) := by
  obtain ⟨hi, e⟩ := List.getElem?_eq_some_iff.mp h
  rw [List.drop_eq_getElem_cons hi, e]
theorem sub_news {h₀ h : Heap} {L : Addr} {news all : Led} (N : News h₀ L h all) (hs : ∀ p ∈ news, p ∈ all) : News h₀ L h news := fun p hp => N p (hs p hp)
theorem sub_1_2 {h₀ h : Heap} {L : Addr} {news : Led} {a b : Addr × Obj} (N : News h₀ L h (a :: b :: news)) : News h₀ L h (a :: news) := fun p hp => by
  rcases List.mem_cons.mp hp with rfl | hp
  · exact N _ (.head _)
  · exact N _ (.tail _ (.tail _ hp))
theorem swap3 {h₀ h : Heap} {L : Addr} {news : Led} {a b c : Addr × Obj} (N : News h₀ L h (a :: b :: c :: news)) : News h₀ L h (c :: ([a, b] ++ news)) := fun p hp => by
  rcases List.mem_cons.mp hp with rfl | hp
  · exact N _ (.tail _ (.tail _ (.head _)))
  · rcases List.mem_cons.mp hp with rfl | hp
    · exact N _ (.head _)
    · rcases List.mem_cons.mp hp with rfl | hp
      · exact N _ (.tail _ (.head _))
      · exact N _ (.tail _ (.tail _ (.tail _ hp)))
theorem sub_1_4 {h₀ h : Heap} {L : Addr} {news : Led} {a b c d : Addr × Obj} (N : News h₀ L h (a :: b :: c :: d :: news)) : News h₀ L h (a :: news) := fun p hp => by
  rcases List.mem_cons.mp hp with rfl | hp
  · exact N _ (.head _)
  · exact N _ (.tail _ (.tail _ (.tail _ (.tail _ hp))))
/-- what a turn of a loop leaves -/
noncomputable def TurnEnd' (h₀ : Heap) (L : Addr) (I : Addr) (oI : Obj) (Jn : (Str → Option Value) → Led → Prop) (s₁ s₂ : Shared) : Prop :=
  ∃ h' tk m' nx, s₂ = { s₁ with heap := h', toks := tk } ∧ Fr h₀ L h' m' ∧ News h₀ L h' ((I, oI) :: nx) ∧ (∀ p ∈ nx, p.1 ≠ I) ∧ Jn m' nx
theorem TurnEnd'.mk' {L I : Addr} {oI : Obj} {Jn : (Str → Option Value) → Led → Prop} {s₁ : Shared} {h' : Heap} {tk : Nat} {m' : Str → Option Value} {nx all : Led} (F : Fr h₀ L h' m') (N : News h₀ L h' all)
    (hI : (I, oI) ∈ all) (hs : ∀ p ∈ nx, p ∈ all) (hoff : ∀ p ∈ nx, p.1 ≠ I) (hJ : Jn m' nx) : TurnEnd' h₀ L I oI Jn s₁ { s₁ with heap := h', toks := tk } :=
  ⟨h', tk, m', nx, rfl, F, fun p hp => by
    rcases List.mem_cons.mp hp with rfl | hp
    · exact N _ hI
    · exact N _ (hs p hp), hoff, hJ⟩

/-- a for over a list of the ledger, any target, by an invariant over the turn, the frame and the ledger -/
theorem turns_list {ax : Addr} {vs : List Value} {k : Nat} {m₀ : Str → Option Value} {news nx₀ : Led} (J : Nat → (Str → Option Value) → Led → Prop)
    (hh : A.handled = none) (F : Fr h₀ env.locals s.heap m₀) (N : News h₀ env.locals s.heap news) (hs : ∀ p ∈ nx₀, p ∈ news) (hj : J 0 m₀ nx₀)
    (hax : ∀ i m nx, J i m nx → (ax, listOf vs.toArray k) ∈ nx)
    (turn : ∀ I, (∀ p ∈ news, p.1 < I) → ∀ i v m₁ nx h tk oI, vs[i]? = some v → J i m₁ nx → (∀ p ∈ nx, p.1 ≠ I) → Fr h₀ env.locals h m₁ → News h₀ env.locals h ((I, oI) :: nx) →
      wpAny (model prog w) A (assign target env v) (fun _ s₃ => wpAny (model prog w) A (execs body env) (fun f s₂ => match f with | .ret v => Q (.ret v) s₂ | .brk => Q .next s₂ | _ => TurnEnd' h₀ env.locals I oI (J (i + 1)) { s with heap := h, toks := tk } s₂) E s₃) E { s with heap := h, toks := tk })
    (done : ∀ m₁ nx h tk, J vs.length m₁ nx → Fr h₀ env.locals h m₁ → News h₀ env.locals h nx → Q .next { s with heap := h, toks := tk }) :
    wpAny (model prog w) A (pyIter (.ref ax)) (fun it s₂ => TurnsAt prog w A h₀ env target body Q E it s₂) E s := by
  have hm : (ax, listOf vs.toArray k) ∈ news := hs _ (hax _ _ _ hj)
  have haxN := N _ hm
  have hl : s.heap.IsList ax vs.toArray := ⟨_, haxN.1, rfl, k, rfl⟩
  have hlt : ax < s.heap.objs.size := Heap.lt_size haxN.1
  have hne : ax ≠ s.heap.objs.size := Nat.ne_of_lt hlt
  refine wpAny_pyIter_list hl ?_
  have W : KTurns prog w A target s.heap.objs.size [s.heap.objs.size, ax] [s.heap.objs.size] vs.toArray.size _ _ _ := KTurns.ofWalks (target := target) (Walks.list hh s.heap.objs.size ax hne vs.toArray) fun i v s Q E st q => letGo_listiter st.1 q
  refine ⟨_, _, _, _, _, _, _, m₀, nx₀, J, rfl, W, ?_, ?_, ?_, ⟨⟨_, Heap.get?_push_size _ rfl, rfl, rfl⟩, hl.at fun o e => Heap.get?_push_of_some _ e⟩, F.push _, (fun p hp => ⟨Heap.get?_push_of_some _ (N p (hs p hp)).1, (N p (hs p hp)).2⟩), hj, ?_, ?_⟩
  · intro hm
    rcases List.mem_cons.mp hm with e | hm
    · exact absurd F.ns.lt (e ▸ Nat.lt_irrefl _)
    · exact haxN.2.1 (List.mem_singleton.mp hm).symm
  · intro b hb
    rw [List.mem_singleton.mp hb]
    exact next_is_new F
  · intro p hp hI
    exact absurd (Heap.lt_size (N p (hs p hp)).1) ((List.mem_singleton.mp hI) ▸ Nat.lt_irrefl _)
  · intro i v m₁ nx h₁ tk₁ own hi hP hJ hoff hown hget hall hst F₁ N₁
    have hP' : vs[i]? = some v := by simpa using hP
    obtain ⟨oI, hoI, hc⟩ := hst.1
    have hmI : (s.heap.objs.size, oI) ∈ own := hall _ (by simp) (next_is_new F) _ hoI
    have hoff' : ∀ p ∈ nx, p.1 ≠ s.heap.objs.size := fun p hp e => hoff p hp (by simp [e])
    have N₂ : News h₀ env.locals h₁ ((s.heap.objs.size, oI) :: nx) := fun p hp => by
      rcases List.mem_cons.mp hp with rfl | hp
      · exact N₁ _ (List.mem_append_left _ hmI)
      · exact N₁ _ (List.mem_append_right _ hp)
    refine wpAny_mono (turn s.heap.objs.size (fun p hp => Heap.lt_size (N p hp).1) i v m₁ nx h₁ tk₁ oI hP' hJ hoff' F₁ N₂) (fun _ s₃ h₃ => wpAny_mono h₃ (fun f s₄ h₄ => ?_) fun _ _ e => e) fun _ _ e => e
    have fin : TurnEnd' h₀ env.locals s.heap.objs.size oI (J (i + 1)) { s with heap := h₁, toks := tk₁ } s₄ → LoopStepU h₀ env.locals [s.heap.objs.size] own (J (i + 1)) { s with heap := h₁, toks := tk₁ } .next s₄ := by
      rintro ⟨h', tk, m', nx', e, F', N', ho, hJ'⟩
      refine ⟨rfl, h', tk, m', nx', e, F', fun p hp => ?_, fun p hp hI => ho p hp (List.mem_singleton.mp hI), hJ'⟩
      rcases List.mem_append.mp hp with hp | hp
      · have hg := hget p hp
        rcases List.mem_cons.mp (hown p hp) with h1 | h1
        · rw [h1] at hg
          have : p = (s.heap.objs.size, oI) := Prod.ext h1 (Option.some.inj (hg.symm.trans hoI))
          rw [this]; exact N' _ (.head _)
        · have h1' := List.mem_singleton.mp h1
          have h2 := (N₂ _ (.tail _ (hax _ _ _ hJ))).1
          rw [h1', h2] at hg
          have : p = (ax, listOf vs.toArray k) := Prod.ext h1' (Option.some.inj hg).symm
          rw [this]; exact N' _ (.tail _ (hax _ _ _ hJ'))
      · exact N' _ (.tail _ hp)
    cases f with
    | ret v => exact .ret h₄
    | brk => exact .brk h₄
    | next => exact .next (fin h₄)
    | cont => exact .cont (fin h₄)
  · intro h' tk m' nx F' N' _ hJ
    have e : vs.toArray.size = vs.length := by simp
    rw [e] at hJ
    exact done m' nx h' tk hJ F' N'

/-- comprehensions over a list of the ledger, by an invariant over the turn and the items made so far -/
theorem restT_inv {ct elt : PySem.Expr} {x : Str} {scope : Scope} {cl : List (Str × Addr)} {L : Addr} {m : Str → Option Value} {ax : Addr} {vs : List Value} {news : Led} {Fin : List Value → Led → Prop} (J : Nat → List Value → Prop) (h0 : J 0 [])
    (hS : LCg.SrcAt h₀ ax vs.toArray news)
    (turn : ∀ i v ys I oI C oC D m₂ h tk (E' : Value → Shared → Prop), vs[i]? = some v → J i ys → LCg.NsObj oC m₂ → m₂ x = some v → Fr h₀ L h m → News h₀ L h ((I, oI) :: (C, oC) :: (D, LCg.lst ys) :: news) → LCg.Off3 I C D news → ((@Ne Nat I C) ∧ (@Ne Nat I D) ∧ (@Ne Nat C D)) →
      wpAny (model prog w) A (isTrue ct (compEnvC scope cl C env) (eval ct (compEnvC scope cl C env))) (fun ok s' => if ok = true then
        wpAny (model prog w) A (eval elt (compEnvC scope cl C env)) (LCg.CompEnd h₀ L m { s with heap := h, toks := tk } I oI C oC D (LCg.lst ys) (LCg.SrcAt h₀ ax vs.toArray) (fun y news' => news' = news ∧ J (i + 1) (ys ++ [y]))) E' s'
        else LCg.CompEnd h₀ L m { s with heap := h, toks := tk } I oI C oC D (LCg.lst ys) (LCg.SrcAt h₀ ax vs.toArray) (fun _ news' => news' = news ∧ J (i + 1) ys) Value.none s') E' { s with heap := h, toks := tk })
    (fin : ∀ ys, J vs.length ys → Fin ys news) :
    LCt.CompRestT prog w A h₀ L m env ct elt x scope cl s (LCg.SrcAt h₀ ax vs.toArray) (fun i v => vs.toArray[i]? = some v) Fin vs.toArray.size 0 [] news := by
  have key : ∀ (j i : Nat) (ys : List Value), i + j = vs.length → J i ys → LCt.CompRestT prog w A h₀ L m env ct elt x scope cl s (LCg.SrcAt h₀ ax vs.toArray) (fun i v => vs.toArray[i]? = some v) Fin j i ys news := by
    intro j
    induction j with
    | zero =>
      intro i ys hi hJ
      obtain rfl : i = vs.length := hi
      exact LCt.CompRestT.zero (fin ys hJ)
    | succ j ih =>
      intro i ys hi hJ
      refine LCt.CompRestT.succ ?_
      intro v I oI C oC D m₂ h tk E' hv hC hx F N off ne
      have hv' : vs[i]? = some v := by simpa using hv
      refine wpAny_mono (turn i v ys I oI C oC D m₂ h tk E' hv' hJ hC hx F N off ne) (fun b s₂ hq => ?_) fun _ _ e => e
      cases b with
      | true =>
        simp only [if_true] at hq ⊢
        refine wpAny_mono hq (fun y s₃ hr => ?_) fun _ _ e => e
        obtain ⟨h', tk', nw, e, F', N', off', hS', rfl, hr'⟩ := hr
        exact ⟨h', tk', nw, e, F', N', off', hS', ih (i + 1) _ (by omega) hr'⟩
      | false =>
        simp only [Bool.false_eq_true, if_false] at hq ⊢
        obtain ⟨h', tk', nw, e, F', N', off', hS', rfl, hr'⟩ := hq
        exact ⟨h', tk', nw, e, F', N', off', hS', ih (i + 1) _ (by omega) hr'⟩
  have e : vs.toArray.size = vs.length := by simp
  rw [e]
  exact key vs.length 0 [] (by omega) h0
theorem restU_inv {elt : PySem.Expr} {x : Str} {scope : Scope} {cl : List (Str × Addr)} {L : Addr} {m : Str → Option Value} {ax : Addr} {vs : List Value} {news : Led} {Fin : List Value → Led → Prop} (J : Nat → List Value → Prop) (h0 : J 0 [])
    (turn : ∀ i v ys I oI C oC D m₂ h tk (E' : Value → Shared → Prop), vs[i]? = some v → J i ys → LCg.NsObj oC m₂ → m₂ x = some v → Fr h₀ L h m → News h₀ L h ((I, oI) :: (C, oC) :: (D, LCg.lst ys) :: news) → LCg.Off3 I C D news → ((@Ne Nat I C) ∧ (@Ne Nat I D) ∧ (@Ne Nat C D)) →
        wpAny (model prog w) A (eval elt (compEnvC scope cl C env)) (LCg.CompEnd h₀ L m { s with heap := h, toks := tk } I oI C oC D (LCg.lst ys) (LCg.SrcAt h₀ ax vs.toArray) (fun y news' => news' = news ∧ J (i + 1) (ys ++ [y]))) E' { s with heap := h, toks := tk })
    (fin : ∀ ys, J vs.length ys → Fin ys news) :
    LCg.CompRest prog w A h₀ L m env elt x scope cl s (LCg.SrcAt h₀ ax vs.toArray) (fun i v => vs.toArray[i]? = some v) Fin vs.toArray.size 0 [] news := by
  have key : ∀ (j i : Nat) (ys : List Value), i + j = vs.length → J i ys → LCg.CompRest prog w A h₀ L m env elt x scope cl s (LCg.SrcAt h₀ ax vs.toArray) (fun i v => vs.toArray[i]? = some v) Fin j i ys news := by
    intro j
    induction j with
    | zero =>
      intro i ys hi hJ
      obtain rfl : i = vs.length := hi
      exact LCg.CompRest.zero (fin ys hJ)
    | succ j ih =>
      intro i ys hi hJ
      refine LCg.CompRest.succ ?_
      intro v I oI C oC D m₂ h tk E' hv hC hx F N off ne
      have hv' : vs[i]? = some v := by simpa using hv
      refine wpAny_mono (turn i v ys I oI C oC D m₂ h tk E' hv' hJ hC hx F N off ne) (fun y s₃ hr => ?_) fun _ _ e => e
      obtain ⟨h', tk', nw, e, F', N', off', hS', rfl, hr'⟩ := hr
      exact ⟨h', tk', nw, e, F', N', off', hS', ih (i + 1) _ (by omega) hr'⟩
  have e : vs.toArray.size = vs.length := by simp
  rw [e]
  exact key vs.length 0 [] (by omega) h0
theorem restP_inv {elt : PySem.Expr} {x x₂ : Str} {scope : Scope} {cl : List (Str × Addr)} {L : Addr} {m : Str → Option Value} {ax : Addr} {vs : List Value} {news : Led} {Fin : List Value → Led → Prop} (J : Nat → List Value → Prop) (h0 : J 0 [])
    (hin : ∀ (i : Nat) (v : Value), vs[i]? = some v → ∃ (t : Addr) (v₁ v₂ : Value) (nt : Nat), v = Value.ref t ∧ (t, ({ cls := .type "tuple", data := .seq #[v₁, v₂] nt } : Obj)) ∈ news)
    (turn : ∀ (i : Nat) (t : Addr) (v₁ v₂ : Value) (nt : Nat) ys I oI C oC D m₂ h tk (E' : Value → Shared → Prop), vs[i]? = some (Value.ref t) → (t, ({ cls := .type "tuple", data := .seq #[v₁, v₂] nt } : Obj)) ∈ news → J i ys → LCg.NsObj oC m₂ → m₂ x = some v₁ → m₂ x₂ = some v₂ → Fr h₀ L h m → News h₀ L h ((I, oI) :: (C, oC) :: (D, LCg.lst ys) :: news) → LCg.Off3 I C D news → ((@Ne Nat I C) ∧ (@Ne Nat I D) ∧ (@Ne Nat C D)) →
        wpAny (model prog w) A (eval elt (compEnvC scope cl C env)) (LCg.CompEnd h₀ L m { s with heap := h, toks := tk } I oI C oC D (LCg.lst ys) (LCg.SrcAt h₀ ax vs.toArray) (fun y news' => news' = news ∧ J (i + 1) (ys ++ [y]))) E' { s with heap := h, toks := tk })
    (fin : ∀ ys, J vs.length ys → Fin ys news) :
    LCp.CompRestP prog w A h₀ L m env elt x x₂ scope cl s (LCg.SrcAt h₀ ax vs.toArray) (fun i v => vs.toArray[i]? = some v) Fin vs.toArray.size 0 [] news := by
  have key : ∀ (j i : Nat) (ys : List Value), i + j = vs.length → J i ys → LCp.CompRestP prog w A h₀ L m env elt x x₂ scope cl s (LCg.SrcAt h₀ ax vs.toArray) (fun i v => vs.toArray[i]? = some v) Fin j i ys news := by
    intro j
    induction j with
    | zero =>
      intro i ys hi hJ
      obtain rfl : i = vs.length := hi
      exact LCp.CompRestP.zero (fin ys hJ)
    | succ j ih =>
      intro i ys hi hJ
      refine LCp.CompRestP.succ ?_
      intro v hv
      have hv' : vs[i]? = some v := by simpa using hv
      obtain ⟨t, v₁, v₂, nt, rfl, hm⟩ := hin i v hv'
      refine ⟨t, _, v₁, v₂, nt, rfl, hm, rfl, rfl, ?_⟩
      intro I oI C oC D m₂ h tk E' hC hx hx2 F N off ne
      refine wpAny_mono (turn i t v₁ v₂ nt ys I oI C oC D m₂ h tk E' hv' hm hJ hC hx hx2 F N off ne) (fun y s₃ hr => ?_) fun _ _ e => e
      obtain ⟨h', tk', nw, e, F', N', off', hS', rfl, hr'⟩ := hr
      exact ⟨h', tk', nw, e, F', N', off', hS', ih (i + 1) _ (by omega) hr'⟩
  have e : vs.toArray.size = vs.length := by simp
  rw [e]
  exact key vs.length 0 [] (by omega) h0
/-- a for over a range by ones, by an invariant -/
theorem turns_range {x : Str} {px : Pos} {r : Addr} {a₀ b₀ : Int} {t₀ u₀ v₀ : Tok} {n : Nat} {m₀ : Str → Option Value} {news nx₀ : Led} (J : Nat → (Str → Option Value) → Led → Prop)
    (hh : A.handled = none) (hr : IsRange s.heap r a₀ b₀ 1 t₀ u₀ v₀) (hsmall : Builtin.Range.small a₀ b₀ 1 = true) (hn : Builtin.Range.rangeSize a₀ b₀ 1 = (n : Int))
    (F : Fr h₀ env.locals s.heap m₀) (N : News h₀ env.locals s.heap news) (hs : ∀ p ∈ nx₀, p ∈ news) (hj : J 0 m₀ nx₀)
    (turn : ∀ I, (∀ p ∈ news, p.1 < I) → ∀ i t m₁ nx h tk oI, i < n → J i m₁ nx → (∀ p ∈ nx, p.1 ≠ I) → Fr h₀ env.locals h m₁ → News h₀ env.locals h ((I, oI) :: nx) →
      wpAny (model prog w) A (assign (.Name x px) env (.int (a₀ + (i : Int)) t)) (fun _ s₃ => wpAny (model prog w) A (execs body env) (fun f s₂ => match f with | .ret v => Q (.ret v) s₂ | .brk => Q .next s₂ | _ => TurnEnd' h₀ env.locals I oI (J (i + 1)) { s with heap := h, toks := tk } s₂) E s₃) E { s with heap := h, toks := tk })
    (done : ∀ m₁ nx h tk, J n m₁ nx → Fr h₀ env.locals h m₁ → News h₀ env.locals h nx → Q .next { s with heap := h, toks := tk }) :
    wpAny (model prog w) A (pyIter (.ref r)) (fun it s₂ => TurnsAt prog w A h₀ env (.Name x px) body Q E it s₂) E s := by
  refine wpAny_pyIter_range hr hsmall ?_
  have W0 : Walks prog w A s.heap.objs.size [s.heap.objs.size] [s.heap.objs.size] n (fun i v => i < n ∧ ∃ t, v = .int (a₀ + i * 1) t)
      (fun i h => IsRangeIter h s.heap.objs.size (a₀ + (i : Nat) * 1) ((n : Int) - (i : Nat)) 1) := (Walks.range hh _ a₀ 1 n).bound
  have W := KTurns.ofWalks (target := .Name x px) W0 fun i v s Q E st q => wpAny_pure q
  refine ⟨_, _, _, _, _, _, _, m₀, nx₀, J, rfl, W, ?_, ?_, ?_, (by show IsRangeIter _ _ _ _ _; rw [hn]; simpa using Heap.get?_push_size _ rfl), F.push _, (fun p hp => ⟨Heap.get?_push_of_some _ (N p (hs p hp)).1, (N p (hs p hp)).2⟩), hj, ?_, ?_⟩
  · intro hm
    exact absurd F.ns.lt ((List.mem_singleton.mp hm) ▸ Nat.lt_irrefl _)
  · intro b hb
    rw [List.mem_singleton.mp hb]
    exact next_is_new F
  · intro p hp hI
    exact absurd (Heap.lt_size (N p (hs p hp)).1) ((List.mem_singleton.mp hI) ▸ Nat.lt_irrefl _)
  · intro i v m₁ nx h₁ tk₁ own hi hP hJ hoff hown hget hall hst F₁ N₁
    obtain ⟨hin, t, rfl⟩ := hP
    obtain ⟨oI, hoI⟩ : ∃ o, h₁.get? s.heap.objs.size = some o := ⟨_, hst⟩
    have hmI := hall _ (by simp) (next_is_new F) _ hoI
    have hoff' : ∀ p ∈ nx, p.1 ≠ s.heap.objs.size := fun p hp e => hoff p hp (by simp [e])
    have N₂ : News h₀ env.locals h₁ ((s.heap.objs.size, oI) :: nx) := fun p hp => by
      rcases List.mem_cons.mp hp with rfl | hp
      · exact N₁ _ (List.mem_append_left _ hmI)
      · exact N₁ _ (List.mem_append_right _ hp)
    have e1 : a₀ + (i : Int) * 1 = a₀ + (i : Int) := by rw [Int.mul_one]
    rw [e1]
    refine wpAny_mono (turn s.heap.objs.size (fun p hp => Heap.lt_size (N p hp).1) i t m₁ nx h₁ tk₁ oI hin hJ hoff' F₁ N₂) (fun _ s₃ h₃ => wpAny_mono h₃ (fun f s₄ h₄ => ?_) fun _ _ e => e) fun _ _ e => e
    have fin : TurnEnd' h₀ env.locals s.heap.objs.size oI (J (i + 1)) { s with heap := h₁, toks := tk₁ } s₄ → LoopStepU h₀ env.locals [s.heap.objs.size] own (J (i + 1)) { s with heap := h₁, toks := tk₁ } .next s₄ := by
      rintro ⟨h', tk, m', nx', e, F', N', ho, hJ'⟩
      refine ⟨rfl, h', tk, m', nx', e, F', fun p hp => ?_, fun p hp hI => ho p hp (List.mem_singleton.mp hI), hJ'⟩
      rcases List.mem_append.mp hp with hp | hp
      · have hg := hget p hp
        have h1 := List.mem_singleton.mp (hown p hp)
        rw [h1] at hg
        have : p = (s.heap.objs.size, oI) := Prod.ext h1 (Option.some.inj (hg.symm.trans hoI))
        rw [this]; exact N' _ (.head _)
      · exact N' _ (.tail _ hp)
    cases f with
    | ret v => exact .ret h₄
    | brk => exact .brk h₄
    | next => exact .next (fin h₄)
    | cont => exact .cont (fin h₄)
  · intro h' tk m' nx F' N' _ hJ
    exact done m' nx h' tk hJ F' N'
noncomputable def WEnd (h₀ : Heap) (L : Addr) (s : Shared) (J : Nat → (Str → Option Value) → Led → Prop) (n : Nat) (s₃ : Shared) : Prop :=
  ∃ n' h' tk' m' nx', s₃ = { s with heap := h', toks := tk' } ∧ n' < n ∧ Fr h₀ L h' m' ∧ News h₀ L h' nx' ∧ J n' m' nx'
theorem WEnd.mk' {L : Addr} {J : Nat → (Str → Option Value) → Led → Prop} {n : Nat} (n' : Nat) {h' : Heap} {tk' : Nat} {m' : Str → Option Value} {nx' : Led} (F : Fr h₀ L h' m') (N : News h₀ L h' nx') (hn : n' < n) (hJ : J n' m' nx') : WEnd h₀ L s J n { s with heap := h', toks := tk' } :=
  ⟨n', h', tk', m', nx', rfl, hn, F, N, hJ⟩
theorem item_listN {L l : Addr} {news : Led} {vs : List Value} {k : Nat} {i : Int} {u : Tok} {x : Value} {value slice : PySem.Expr} {Q : Value → Shared → Prop} (N : News h₀ L s.heap news) (hm : (l, listOf vs.toArray k) ∈ news)
    (h0 : 0 ≤ i) (hf : i < 2 ^ 63) (hx : vs[i.toNat]? = some x) (h : Q x s)
    (hs : subscripted slice false (.ref l) (.int i u) = operate [.ref l, .int i u] (getItem (.ref l) (.int i u)) := by with_unfolding_all rfl) (hg : ∀ r, letTemporaryGo value (.ref l) r = pure () := by intro _; with_unfolding_all rfl) :
    wpAny (model prog w) A (subscriptTail value slice (.ref l) (.int i u)) Q E s :=
  item_list ⟨_, (N _ hm).1, rfl, k, rfl⟩ h0 hf (by simpa using hx) h hs hg
theorem len_listN {L D : Addr} {news : Led} {vs : List Value} {k : Nat} {Q : Value → Shared → Prop} (N : News h₀ L s.heap news) (hm : (D, listOf vs.toArray k) ∈ news) (hz : vs.length ≤ 1000)
    (h : Q (.int (vs.length : Int) (s.toks + 1)) { s with toks := s.toks + 1 + 1 }) : wpAny (model prog w) A (call (.builtin "len") [.ref D]) Q E s :=
  len_list ⟨_, (N _ hm).1, rfl, k, rfl⟩ (by simp only [List.size_toArray]; omega) (by simpa using h)
theorem updF_all {d : Addr} {o : Obj} : ∀ {l : Led} {g : Obj → Led}, UpdF d o l g → UpdAll d o l g := by
  intro l g h
  induction h with
  | head a => exact fun o' => Upd.head a
  | tail a _ ih => exact fun o' => Upd.tail a (ih o')
noncomputable def ZEnd (h₀ : Heap) (L : Addr) (its : Led) (Jn : (Str → Option Value) → Led → Prop) (s₁ s₂ : Shared) : Prop :=
  ∃ h' tk m' nx, s₂ = { s₁ with heap := h', toks := tk } ∧ Fr h₀ L h' m' ∧ News h₀ L h' (nx ++ its) ∧ (∀ p ∈ nx, ∀ q ∈ its, p.1 ≠ q.1) ∧ Jn m' nx
theorem ZEnd.mk' {L : Addr} {its : Led} {Jn : (Str → Option Value) → Led → Prop} {s₁ : Shared} {h' : Heap} {tk : Nat} {m' : Str → Option Value} {nx all : Led} (F : Fr h₀ L h' m') (N : News h₀ L h' all)
    (hs : ∀ p ∈ nx ++ its, p ∈ all) (hoff : ∀ p ∈ nx, ∀ q ∈ its, p.1 ≠ q.1) (hJ : Jn m' nx) : ZEnd h₀ L its Jn s₁ { s₁ with heap := h', toks := tk } :=
  ⟨h', tk, m', nx, rfl, F, fun p hp => N _ (hs p hp), hoff, hJ⟩
theorem allObj_of : ∀ {ws : List (Addr × String)} {k : Led → Prop}, (∀ its, Objs ws its → k its) → AllObj ws k
  | [], _, h => h [] trivial
  | w :: r, k, h => fun o ho => allObj_of fun its hi => h ((w.1, o) :: its) ⟨⟨rfl, ho⟩, hi⟩
theorem itemsRest_inv {ws : List (Addr × String)} {keep : Led} {xs : List Itm} (J : Nat → (Str → Option Value) → Led → Prop) (hkeep : ∀ i m nx, J i m nx → SubL keep nx)
    (turn : ∀ i a v m₁ nx its h tk, xs[i]? = some a → a.Is v h → J i m₁ nx → (∀ p ∈ nx, ∀ q ∈ its, p.1 ≠ q.1) → Fr h₀ env.locals h m₁ → News h₀ env.locals h (nx ++ its) →
      wpAny (model prog w) A (assign target env v) (fun _ s₂ => wpAny (model prog w) A (execs body env) (fun f s₃ => match f with | .ret v => Q (.ret v) s₃ | .brk => Q .next s₃ | _ => ZEnd h₀ env.locals its (J (i + 1)) { s with heap := h, toks := tk } s₃) E s₂) E { s with heap := h, toks := tk })
    (done : ∀ m nx h tk, J xs.length m nx → Fr h₀ env.locals h m → News h₀ env.locals h nx → Q .next { s with heap := h, toks := tk }) :
    ∀ j i m nx, i + j = xs.length → J i m nx → (∀ p ∈ nx, ∀ v ∈ ws, p.1 ≠ v.1) → ItemsRest prog w A E h₀ env target body Q s ws keep (xs.drop i) m nx := by
  intro j
  induction j with
  | zero =>
    intro i m nx hi hJ _
    obtain rfl : i = xs.length := hi
    rw [List.drop_length]
    exact fun h tk F N => done m nx h tk hJ F N
  | succ j ih =>
    intro i m nx hi hJ hoff
    have hlt : i < xs.length := by omega
    rw [List.drop_eq_getElem_cons hlt]
    intro v h tk hv F
    refine allObj_of fun its hits N => ?_
    have hmap := hits.map
    have hoff' : ∀ p ∈ nx, ∀ q ∈ its, p.1 ≠ q.1 := fun p hp q hq => by
      have : q.1 ∈ ws.map (·.1) := hmap ▸ List.mem_map.mpr ⟨q, hq, rfl⟩
      obtain ⟨v, hv, e⟩ := List.mem_map.mp this
      rw [← e]; exact hoff p hp v hv
    refine wpAny_mono (turn i xs[i] v m nx its h tk (by simp [hlt]) hv hJ hoff' F fun p hp => N p ((List.mem_append.mp hp).elim (fun h => List.mem_append.mpr (.inr h)) fun h => List.mem_append.mpr (.inl h))) (fun _ s₂ h₂ => wpAny_mono h₂ (fun f s₃ h₃ => ?_) fun _ _ e => e) fun _ _ e => e
    have fin : ZEnd h₀ env.locals its (J (i + 1)) { s with heap := h, toks := tk } s₃ → UnrEndW h₀ env.locals { s with heap := h, toks := tk } its (fun m' n' => SubL keep n' ∧ ItemsRest prog w A E h₀ env target body Q s ws keep (xs.drop (i + 1)) m' n') s₃ := by
      rintro ⟨h', tk', m', nx', e, F', N', ho, hJ'⟩
      refine ⟨h', tk', m', nx', e, F', fun p hp => N' p ((List.mem_append.mp hp).elim (fun h => List.mem_append.mpr (.inr h)) fun h => List.mem_append.mpr (.inl h)), ho, hkeep _ _ _ hJ', ih (i + 1) m' nx' (by omega) hJ' fun p hp v hv => ?_⟩
      have : v.1 ∈ its.map (·.1) := hmap ▸ List.mem_map.mpr ⟨v, hv, rfl⟩
      obtain ⟨q, hq, e⟩ := List.mem_map.mp this
      rw [← e]; exact ho p hp q hq
    cases f with
    | ret v => exact h₃
    | brk => exact h₃
    | next => exact fin h₃
    | cont => exact fin h₃
/-- a for over zip(..) of two lists of the ledger -/
theorem turns_zip {elts : List PySem.Expr} {k : Nat} {pos : Pos} {l1 l2 : Addr} {xs ys : List Value} {n1 n2 : Nat} {m₀ : Str → Option Value} {news : Led} (J : Nat → (Str → Option Value) → Led → Prop)
    (hh : A.handled = none) (F : Fr h₀ env.locals s.heap m₀) (N : News h₀ env.locals s.heap news) (hj : J 0 m₀ news) (hlen : xs.length = ys.length)
    (h1 : ∀ i m nx, J i m nx → (l1, listOf xs.toArray n1) ∈ nx) (h2 : ∀ i m nx, J i m nx → (l2, listOf ys.toArray n2) ∈ nx)
    (turn : ∀ i x y T m₁ nx its h tk, xs[i]? = some x → ys[i]? = some y → IsTup h T #[x, y] → J i m₁ nx → (∀ p ∈ nx, ∀ q ∈ its, p.1 ≠ q.1) → Fr h₀ env.locals h m₁ → News h₀ env.locals h (nx ++ its) →
      wpAny (model prog w) A (assign (.Tuple elts k pos) env (.ref T)) (fun _ s₂ => wpAny (model prog w) A (execs body env) (fun f s₃ => match f with | .ret v => Q (.ret v) s₃ | .brk => Q .next s₃ | _ => ZEnd h₀ env.locals its (J (i + 1)) { s with heap := h, toks := tk } s₃) E s₂) E { s with heap := h, toks := tk })
    (done : ∀ m nx h tk, J xs.length m nx → Fr h₀ env.locals h m → News h₀ env.locals h nx → Q .next { s with heap := h, toks := tk }) :
    wpAny (model prog w) A (call (.type "zip") [.ref l1, .ref l2]) (fun xv s₁ => wpAny (model prog w) A (pyIter xv) (fun it s₂ => TurnsAt prog w A h₀ env (.Tuple elts k pos) body Q E it s₂) E s₁) E s := by
  refine ktu_zip (lo1 := listOf xs.toArray n1) (lo2 := listOf ys.toArray n2) hh F N (h1 _ _ _ hj) rfl rfl (h2 _ _ _ hj) rfl rfl fun I hI => ?_
  have hzl : (zipItems xs ys).length = xs.length := by rw [zipItems_length, hlen, Nat.min_self]
  have key := itemsRest_inv (prog := prog) (w := w) (A := A) (E := E) (s := s) (env := env) (h₀ := h₀) (target := .Tuple elts k pos) (body := body) (Q := Q) (ws := [(I + 4, "zip"), (I + 2, "tuple"), (I + 3, "tuple"), (I, "list_iterator"), (I + 1, "list_iterator")]) (keep := [(l1, listOf xs.toArray n1), (l2, listOf ys.toArray n2)]) (xs := zipItems xs ys) J
    (fun i m nx hJ => ⟨h1 _ _ _ hJ, h2 _ _ _ hJ, trivial⟩) ?_ (fun m nx h tk hJ F' N' => done m nx h tk (hzl ▸ hJ) F' N') (zipItems xs ys).length 0 m₀ news (Nat.zero_add _) hj ?_
  · rw [List.drop_zero] at key
    exact key
  · intro i a v m₁ nx its h tk ha hv hJ hoff F' N'
    have hlt : i < xs.length := by
      rw [← hzl]; exact (List.getElem?_eq_some_iff.mp ha).1
    have hlt2 : i < ys.length := hlen ▸ hlt
    have e := zipItems_get xs ys i (List.getElem?_eq_getElem hlt) (List.getElem?_eq_getElem hlt2)
    rw [e] at ha
    cases ha
    obtain ⟨T, t, rfl, hT⟩ := hv
    exact turn i _ _ T m₁ nx its h tk (List.getElem?_eq_getElem hlt) (List.getElem?_eq_getElem hlt2) hT hJ hoff F' N'
  · intro p hp v hv
    have hlt := hI p hp
    have : @LT.lt Nat _ p.1 I := hlt
    have hv' : v.1 = I + 4 ∨ v.1 = I + 2 ∨ v.1 = I + 3 ∨ v.1 = I ∨ v.1 = I + 1 := by
      simp only [List.mem_cons, List.not_mem_nil, or_false] at hv
      rcases hv with rfl | rfl | rfl | rfl | rfl <;> simp
    refine neN ?_
    rcases hv' with e | e | e | e | e <;> (intro q; rw [q, e] at this; first | exact Nat.lt_irrefl _ this | exact absurd this (by exact Nat.not_lt.mpr (Nat.le_add_right _ _)))
/-- floor division and remainder, closed: the library's own lines weigh fdiv and fmod at every test -/
@[irreducible] noncomputable def dvv (a b : Int) : Int := a.fdiv b
@[irreducible] noncomputable def mdd (a b : Int) : Int := a.fmod b
theorem dvv_eq (a b : Int) : dvv a b = a.fdiv b := by unfold dvv; rfl
theorem mdd_eq (a b : Int) : mdd a b = a.fmod b := by unfold mdd; rfl
theorem my_div {a b : Int} {t u : Tok} {Q : Value → Shared → Prop} (hb : b ≠ 0) (hp : b.natAbs.log2 < 9000) (h : Q (.int (dvv a b) s.toks) { s with toks := s.toks + 1 }) : wpAny (model prog w) A (binaryOp .FloorDiv (.int a t) (.int b u)) Q E s :=
  floordiv_int hb (by rw [dvv_eq] at h; exact h) (Or.inl (PyProof.noPylong_of_log2 hp))
theorem my_mod {a b : Int} {t u : Tok} {Q : Value → Shared → Prop} (hb : b ≠ 0) (h : Q (.int (mdd a b) s.toks) { s with toks := s.toks + 1 }) : wpAny (model prog w) A (binaryOp .Mod (.int a t) (.int b u)) Q E s :=
  mod_int' hb (by rw [mdd_eq] at h; exact h)
theorem my_item {value slice : PySem.Expr} {x : Str} {t : Tok} {a b : Int} {u : Tok} {Q : Value → Shared → Prop} (hb0 : 0 < b) (hb : b ≤ (x.length : Int)) (hx : (x.length : Int) < 9223372036854775808)
    (h : Q (.str (Txt.item x (mdd a b)) s.toks) { s with toks := s.toks + 1 })
    (hs : subscripted slice false (.str x t) (.int (mdd a b) u) = operate [.str x t, .int (mdd a b) u] (getItem (.str x t) (.int (mdd a b) u)) := by with_unfolding_all rfl)
    (ht : ∀ r, letTemporaryGo value (.str x t) r = pure () := by intro _; with_unfolding_all rfl) :
    wpAny (model prog w) A (subscriptTail value slice (.str x t) (.int (mdd a b) u)) Q E s := by
  rw [mdd_eq] at h hs ⊢
  exact item_str_fmod hb0 hb hx (fun _ => h) hs ht
theorem lit_ab : (2 : Int) ≤ ((Str.ofString "ab").length : Int) := by decide +kernel
theorem lit_ab' : ((Str.ofString "ab").length : Int) < 9223372036854775808 := by decide +kernel
theorem lit_01 : (2 : Int) ≤ ((Str.ofString "01").length : Int) := by decide +kernel
theorem lit_01' : ((Str.ofString "01").length : Int) < 9223372036854775808 := by decide +kernel
theorem lit_abc : (3 : Int) ≤ ((Str.ofString "abc").length : Int) := by decide +kernel
theorem lit_abc' : ((Str.ofString "abc").length : Int) < 9223372036854775808 := by decide +kernel
/-- a while by an invariant with a measure, over the frame and the ledger -/
theorem while_inv {test : PySem.Expr} {m₀ : Str → Option Value} {news : Led} (J : Nat → (Str → Option Value) → Led → Prop) (n₀ : Nat)
    (F : Fr h₀ env.locals s.heap m₀) (N : News h₀ env.locals s.heap news) (hj : J n₀ m₀ news)
    (turn : ∀ n m nx h tk, J n m nx → Fr h₀ env.locals h m → News h₀ env.locals h nx →
      wpAny (model prog w) A (isTrue test env (eval test env)) (fun b s₂ =>
        if b then wpAny (model prog w) A (execs body env) (fun f s₃ => match f with
            | .ret v => Q (.ret v) s₃
            | .brk => Q .next s₃
            | _ => WEnd h₀ env.locals s J n s₃) E s₂
        else Q .next s₂) E { s with heap := h, toks := tk })
    {pos : Pos} (hE : PassesOwn (model prog w) A env E := by passes_own) :
    wpAny (model prog w) A (exec (.While test body [] pos) env) Q E s := by
  refine wpAny_While ?_
  refine codeAny_whileLoop (fun n s' => ∃ h tk m nx, s' = { s with heap := h, toks := tk } ∧ Fr h₀ env.locals h m ∧ News h₀ env.locals h nx ∧ J n m nx) ?_ n₀ ⟨s.heap, s.toks, m₀, news, rfl, F, N, hj⟩
  rintro n s' ⟨h, tk, m, nx, rfl, F', N', hJ⟩
  refine wpAny_mono (turn n m nx h tk hJ F' N') (fun b s₂ h₂ => ?_) fun e s₂ x => hE e s₂ x
  cases b with
  | false =>
    simp only [Bool.false_eq_true, if_false] at h₂ ⊢
    exact wpAny_execs_nil h₂
  | true =>
    simp only [if_true] at h₂ ⊢
    refine wpAny_mono h₂ (fun f s₃ h₃ => ?_) fun e s₂ x => hE e s₂ x
    cases f with
    | ret v => exact h₃
    | brk => exact h₃
    | next => obtain ⟨n', h', tk', m', nx', rfl, hn, F₃, N₃, hJ₃⟩ := h₃; exact ⟨n', hn, h', tk', m', nx', rfl, F₃, N₃, hJ₃⟩
    | cont => obtain ⟨n', h', tk', m', nx', rfl, hn, F₃, N₃, hJ₃⟩ := h₃; exact ⟨n', hn, h', tk', m', nx', rfl, F₃, N₃, hJ₃⟩
end
/-- joining ways: an expression that gives a text; a statement that stores one -/
noncomputable def StrAt (h₀ : Heap) (L : Addr) (m : Str → Option Value) (news : Led) (s₁ : Shared) (V : Str) (v : Value) (s₂ : Shared) : Prop :=
  ∃ h' tk t, v = .str V t ∧ s₂ = { s₁ with heap := h', toks := tk } ∧ Fr h₀ L h' m ∧ News h₀ L h' news
theorem StrAt.mk' {h₀ : Heap} {L : Addr} {m : Str → Option Value} {news : Led} {s₁ : Shared} {V V' : Str} {t : Tok} {h' : Heap} {tk : Nat} (F : Fr h₀ L h' m) (N : News h₀ L h' news) (e' : V' = V) :
    StrAt h₀ L m news s₁ V (.str V' t) { s₁ with heap := h', toks := tk } := ⟨h', tk, t, e' ▸ rfl, rfl, F, N⟩
theorem join_str {M : Model} {A : Around} {E : Value → Shared → Prop} {s : Shared} {h₀ : Heap} {L : Addr} {m : Str → Option Value} {news : Led} {c : Sem Value} {Q : Value → Shared → Prop} (V : Str)
    (_F : Fr h₀ L s.heap m) (_N : News h₀ L s.heap news) (h : wpAny M A c (StrAt h₀ L m news s V) E s) (k : ∀ h' tk t, Fr h₀ L h' m → News h₀ L h' news → Q (.str V t) { s with heap := h', toks := tk }) : wpAny M A c Q E s :=
  wpAny_mono h (fun v s₂ ⟨h', tk, t, e, e', F, N⟩ => by subst e; subst e'; exact k h' tk t F N) fun _ _ e => e
noncomputable def StoreAt (h₀ : Heap) (L : Addr) (m : Str → Option Value) (news : Led) (s₁ : Shared) (x V : Str) (f : Flow) (s₂ : Shared) : Prop :=
  f = .next ∧ ∃ h' tk m', s₂ = { s₁ with heap := h', toks := tk } ∧ Fr h₀ L h' m' ∧ News h₀ L h' news ∧ (∃ t, m' x = some (.str V t)) ∧ ∀ y, y ≠ x → m' y = m y
theorem StoreAt.mk' {h₀ : Heap} {L : Addr} {m m' : Str → Option Value} {news : Led} {s₁ : Shared} {x V V' : Str} {t : Tok} {h' : Heap} {tk : Nat} (F : Fr h₀ L h' m') (N : News h₀ L h' news) (e : m' x = some (.str V' t)) (e' : V' = V) (o : ∀ y, y ≠ x → m' y = m y) :
    StoreAt h₀ L m news s₁ x V .next { s₁ with heap := h', toks := tk } := ⟨rfl, h', tk, m', rfl, F, N, ⟨t, e' ▸ e⟩, o⟩
theorem join_store {M : Model} {A : Around} {E : Value → Shared → Prop} {s : Shared} {h₀ : Heap} {L : Addr} {m : Str → Option Value} {news : Led} {c : Sem Flow} {Q : Flow → Shared → Prop} (x V : Str)
    (_F : Fr h₀ L s.heap m) (_N : News h₀ L s.heap news) (h : wpAny M A c (StoreAt h₀ L m news s x V) E s) (k : ∀ h' tk t, Fr h₀ L h' (fun y => if y = x then some (.str V t) else m y) → News h₀ L h' news → Q .next { s with heap := h', toks := tk }) : wpAny M A c Q E s :=
  wpAny_mono h (fun v s₂ ⟨e, h', tk, m', e', F, N, ⟨t, et⟩, o⟩ => by
    subst e; subst e'
    have : m' = fun y => if y = x then some (.str V t) else m y := by
      funext y
      by_cases hy : y = x
      · rw [if_pos hy, hy, et]
      · rw [if_neg hy, o y hy]
    exact k h' tk t (this ▸ F) N) fun _ _ e => e
theorem fr_eq {h₀ h : Heap} {L : Addr} {m m' : Str → Option Value} (F : Fr h₀ L h m) (e : ∀ y, m y = m' y) : Fr h₀ L h m' := by
  have : m = m' := funext e
  rw [← this]; exact F
section
variable {prog : Program} {w : World} {A : Around} {E : Value → Shared → Prop} {s : Shared} {env : Env} {h₀ : Heap} {target : PySem.Expr} {body : List Stmt} {Q : Flow → Shared → Prop}
/-- a for over a text's signs, by an invariant -/
theorem turns_str {x : Str} {t : Tok} {ys : List Str} {y : Str} {py : Pos} {m₀ : Str → Option Value} {news nx₀ : Led} (J : Nat → (Str → Option Value) → Led → Prop)
    (hh : A.handled = none) (F : Fr h₀ env.locals s.heap m₀) (N : News h₀ env.locals s.heap news) (hs : ∀ p ∈ nx₀, p ∈ news) (hj : J 0 m₀ nx₀)
    (ha : x.cps.all (· < 128) = true) (hy : x.cps.toList.map (fun c => (⟨#[c]⟩ : Str)) = ys)
    (turn : ∀ I, (∀ p ∈ news, p.1 < I) → ∀ i v u m₁ nx h tk oI, ys[i]? = some v → J i m₁ nx → (∀ p ∈ nx, p.1 ≠ I) → Fr h₀ env.locals h m₁ → News h₀ env.locals h ((I, oI) :: nx) →
      wpAny (model prog w) A (assign (.Name y py) env (.str v u)) (fun _ s₃ => wpAny (model prog w) A (execs body env) (fun f s₂ => match f with | .ret v => Q (.ret v) s₂ | .brk => Q .next s₂ | _ => TurnEnd' h₀ env.locals I oI (J (i + 1)) { s with heap := h, toks := tk } s₂) E s₃) E { s with heap := h, toks := tk })
    (done : ∀ m₁ nx h tk, J ys.length m₁ nx → Fr h₀ env.locals h m₁ → News h₀ env.locals h nx → Q .next { s with heap := h, toks := tk }) :
    wpAny (model prog w) A (pyIter (.str x t)) (fun it s₂ => TurnsAt prog w A h₀ env (.Name y py) body Q E it s₂) E s := by
  refine wpAny_pyIter_ascii ha ?_
  have hn : ys.length = x.cps.size := by rw [← hy]; simp
  have W0 : Walks prog w A s.heap.objs.size [s.heap.objs.size] [s.heap.objs.size] x.cps.size (SignAt x)
      (fun i h => h.IsStrIter s.heap.objs.size "str_ascii_iterator" x t i) := Walks.strAscii hh _ x t
  have W := KTurns.ofWalks (target := .Name y py) W0 fun i v s Q E st q => wpAny_pure q
  refine ⟨_, _, _, _, _, _, _, m₀, nx₀, J, rfl, W, ?_, ?_, ?_, ⟨_, Heap.get?_push_size _ rfl, rfl, rfl⟩, F.push _, (fun p hp => ⟨Heap.get?_push_of_some _ (N p (hs p hp)).1, (N p (hs p hp)).2⟩), hj, ?_, ?_⟩
  · intro hm
    exact absurd F.ns.lt ((List.mem_singleton.mp hm) ▸ Nat.lt_irrefl _)
  · intro b hb
    rw [List.mem_singleton.mp hb]
    exact next_is_new F
  · intro p hp hI
    exact absurd (Heap.lt_size (N p (hs p hp)).1) ((List.mem_singleton.mp hI) ▸ Nat.lt_irrefl _)
  · intro i v m₁ nx h₁ tk₁ own hi hP hJ hoff hown hget hall hst F₁ N₁
    obtain ⟨c, u, hc, rfl⟩ := hP
    obtain ⟨oI, hoI, _⟩ := hst
    have hmI := hall _ (by simp) (next_is_new F) _ hoI
    have hoff' : ∀ p ∈ nx, p.1 ≠ s.heap.objs.size := fun p hp e => hoff p hp (by simp [e])
    have N₂ : News h₀ env.locals h₁ ((s.heap.objs.size, oI) :: nx) := fun p hp => by
      rcases List.mem_cons.mp hp with rfl | hp
      · exact N₁ _ (List.mem_append_left _ hmI)
      · exact N₁ _ (List.mem_append_right _ hp)
    have hyi : ys[i]? = some ⟨#[c]⟩ := by
      rw [← hy, List.getElem?_map]
      have : x.cps.toList[i]? = some c := by simpa using hc
      rw [this]; rfl
    refine wpAny_mono (turn s.heap.objs.size (fun p hp => Heap.lt_size (N p hp).1) i _ u m₁ nx h₁ tk₁ oI hyi hJ hoff' F₁ N₂) (fun _ s₃ h₃ => wpAny_mono h₃ (fun f s₄ h₄ => ?_) fun _ _ e => e) fun _ _ e => e
    have fin : TurnEnd' h₀ env.locals s.heap.objs.size oI (J (i + 1)) { s with heap := h₁, toks := tk₁ } s₄ → LoopStepU h₀ env.locals [s.heap.objs.size] own (J (i + 1)) { s with heap := h₁, toks := tk₁ } .next s₄ := by
      rintro ⟨h', tk, m', nx', e, F', N', ho, hJ'⟩
      refine ⟨rfl, h', tk, m', nx', e, F', fun p hp => ?_, fun p hp hI => ho p hp (List.mem_singleton.mp hI), hJ'⟩
      rcases List.mem_append.mp hp with hp | hp
      · have hg := hget p hp
        have h1 := List.mem_singleton.mp (hown p hp)
        rw [h1] at hg
        have : p = (s.heap.objs.size, oI) := Prod.ext h1 (Option.some.inj (hg.symm.trans hoI))
        rw [this]; exact N' _ (.head _)
      · exact N' _ (.tail _ hp)
    cases f with
    | ret v => exact .ret h₄
    | brk => exact .brk h₄
    | next => exact .next (fin h₄)
    | cont => exact .cont (fin h₄)
  · intro h' tk m' nx F' N' _ hJ
    exact done m' nx h' tk (hn ▸ hJ) F' N'
end
section
variable {prog : Program} {w : World} {A : Around} {E : Value → Shared → Prop} {s : Shared} {env : Env} {h₀ : Heap}
/-- a comprehension over a range by ones, by an invariant -/
theorem restR_inv {elt : PySem.Expr} {x : Str} {scope : Scope} {cl : List (Str × Addr)} {L : Addr} {m : Str → Option Value} {a : Int} {n : Nat} {news : Led} {Fin : List Value → Led → Prop} (J : Nat → List Value → Prop) (h0 : J 0 [])
    (turn : ∀ (i : Nat) (t : Tok) ys I oI C oC D m₂ h tk (E' : Value → Shared → Prop), i < n → J i ys → LCg.NsObj oC m₂ → m₂ x = some (.int (a + (i : Int)) t) → Fr h₀ L h m → News h₀ L h ((I, oI) :: (C, oC) :: (D, LCg.lst ys) :: news) → LCg.Off3 I C D news → ((@Ne Nat I C) ∧ (@Ne Nat I D) ∧ (@Ne Nat C D)) →
        wpAny (model prog w) A (eval elt (compEnvC scope cl C env)) (LCg.CompEnd h₀ L m { s with heap := h, toks := tk } I oI C oC D (LCg.lst ys) (fun _ => True) (fun y news' => news' = news ∧ J (i + 1) (ys ++ [y]))) E' { s with heap := h, toks := tk })
    (fin : ∀ ys, J n ys → Fin ys news) :
    LCg.CompRest prog w A h₀ L m env elt x scope cl s (fun _ => True) (fun i v => ∃ t, v = .int (a + (i : Int)) t) Fin n 0 [] news := by
  have key : ∀ (j i : Nat) (ys : List Value), i + j = n → J i ys → LCg.CompRest prog w A h₀ L m env elt x scope cl s (fun _ => True) (fun i v => ∃ t, v = .int (a + (i : Int)) t) Fin j i ys news := by
    intro j
    induction j with
    | zero =>
      intro i ys hi hJ
      obtain rfl : i = n := hi
      exact LCg.CompRest.zero (fin ys hJ)
    | succ j ih =>
      intro i ys hi hJ
      refine LCg.CompRest.succ ?_
      rintro v I oI C oC D m₂ h tk E' ⟨t, rfl⟩ hC hx F N off ne
      refine wpAny_mono (turn i t ys I oI C oC D m₂ h tk E' (by omega) hJ hC hx F N off ne) (fun y s₃ hr => ?_) fun _ _ e => e
      obtain ⟨h', tk', nw, e, F', N', off', hS', rfl, hr'⟩ := hr
      exact ⟨h', tk', nw, e, F', N', off', hS', ih (i + 1) _ (by omega) hr'⟩
  exact key n 0 [] (by omega) h0
end
section
variable {prog : Program} {w : World} {A : Around} {E : Value → Shared → Prop} {s : Shared} {h₀ : Heap} {L : Addr} {m : Str → Option Value}
theorem preSum_bnd {val : Nat → Int} {B : Int} (hB : 0 ≤ B) (h : ∀ i, 0 ≤ val i ∧ val i ≤ B) : ∀ n : Nat, 0 ≤ preSum val n ∧ preSum val n ≤ B * (n : Int)
  | 0 => ⟨Int.le_refl _, by simp [preSum]⟩
  | n + 1 => by
    obtain ⟨a, b⟩ := preSum_bnd hB h n
    obtain ⟨c, d⟩ := h n
    refine ⟨by simp only [preSum]; omega, ?_⟩
    have e : B * ((n + 1 : Nat) : Int) = B * (n : Int) + B := by rw [Int.natCast_add, Int.mul_add]; simp
    rw [e]
    simp only [preSum]; omega
/-- the sum of a list of the ledger, by a bound of its items -/
theorem sum_bnd {l : Addr} {vs : List Value} {k : Nat} {B : Int} {news : Led} {Q : Value → Shared → Prop} (hh : A.handled = none) (F : Fr h₀ L s.heap m) (N : News h₀ L s.heap news) (hm : (l, listOf vs.toArray k) ∈ news)
    (hB : 0 ≤ B) (hb : ∀ v ∈ vs, ∃ a t, v = .int a t ∧ 0 ≤ a ∧ a ≤ B)
    (h : ∀ S h' tk t, 0 ≤ S → S ≤ B * (vs.length : Int) → Fr h₀ L h' m → News h₀ L h' news → Q (.int S t) { s with heap := h', toks := tk }) : wpAny (model prog w) A (call (.builtin "sum") [.ref l]) Q E s := by
  have hl : s.heap.IsList l vs.toArray := ⟨_, (N _ hm).1, rfl, k, rfl⟩
  have hlt : l < s.heap.objs.size := Heap.lt_size (N _ hm).1
  refine call_sum_walkG (wpAny_pyIter_list hl ?_)
  let val : Nat → Int := fun i => match vs[i]? with | some (.int a _) => a | _ => 0
  have hval : ∀ i, 0 ≤ val i ∧ val i ≤ B := by
    intro i
    show 0 ≤ (match vs[i]? with | some (.int a _) => a | _ => 0) ∧ (match vs[i]? with | some (.int a _) => a | _ => 0) ≤ B
    cases e : vs[i]? with
    | none => exact ⟨Int.le_refl _, hB⟩
    | some v =>
      obtain ⟨a, t, rfl, h1, h2⟩ := hb v (List.mem_of_getElem? e)
      exact ⟨h1, h2⟩
  refine ⟨s.heap.objs.size, _, _, vs.toArray.size, _, _, val, rfl, Walks.list (A := A.in1) hh s.heap.objs.size l (Nat.ne_of_lt hlt) vs.toArray, ⟨⟨_, Heap.get?_push_size _ rfl, rfl, rfl⟩, hl.push _⟩, ?_, ?_, ?_⟩
  · intro b hb
    show b < (s.heap.push _).objs.size
    rw [Heap.size_push]
    rcases List.mem_cons.mp hb with rfl | hb
    · exact Nat.lt_succ_self _
    · rw [List.mem_singleton.mp hb]; exact Nat.lt_succ_of_lt hlt
  · intro i v hv
    have hv' : vs[i]? = some v := by simpa using hv
    obtain ⟨a, t, rfl, _⟩ := hb v (List.mem_of_getElem? hv')
    refine ⟨t, ?_⟩
    have : val i = a := by
      show (match vs[i]? with | some (.int a _) => a | _ => 0) = a
      rw [hv']
    rw [this]
  · intro h' tk t hk
    obtain ⟨h1, h2⟩ := preSum_bnd hB hval vs.toArray.size
    have hsz : vs.toArray.size = vs.length := by simp
    rw [hsz] at h2
    have up : ∀ b o, s.heap.get? b = some o → h'.get? b = some o := fun b o e => hk b o (by
      have : @LT.lt Nat _ b s.heap.objs.size := Heap.lt_size e
      intro hm
      exact absurd (List.mem_singleton.mp hm) (Nat.ne_of_lt this)) (Heap.get?_push_of_some _ e)
    exact h _ h' tk t h1 h2 (F.keeps up) fun p hp => ⟨up _ _ (N p hp).1, (N p hp).2⟩
/-- a stepped slice of a list of the ledger -/
theorem slice_st {l : Addr} {its : Array Value} {k : Nat} {vl vu vk : Value} {lo hi st : Option Int} {ops : List Value} {news : Led} {value slice : PySem.Expr} {Q : Value → Shared → Prop}
    (F : Fr h₀ L s.heap m) (N : News h₀ L s.heap news) (hm : (l, listOf its k) ∈ news) (pl : IsPart vl lo) (pu : IsPart vu hi) (pk : IsPart vk st) (h0 : st ≠ some 0) (hsz : its.size ≤ sizeLine)
    (h : ∀ D vs h', Fr h₀ L h' m → News h₀ L h' ((D, listOf (List.toArray vs) 0) :: news) → (∀ v ∈ vs, v ∈ its.toList) → vs.length ≤ its.size → Q (.ref D) { s with heap := h' })
    (hs : subscripted slice false (.ref l) (.ref s.heap.objs.size) = operate ops (getItem (.ref l) (.ref s.heap.objs.size)))
    (ht : ∀ r, letTemporaryGo value (.ref l) r = pure ()) :
    wpAny (model prog w) A (subscriptTail value slice (.ref l) (.ref s.heap.objs.size)) Q E { s with heap := s.heap.push { cls := .type "slice", data := .fields #[vl, vu, vk] } } := by
  refine slice_list3 F N ⟨_, (N _ hm).1, rfl, k, rfl⟩ pl pu pk h0 (fun h' F' N' => h _ (slicePick its lo hi st).toList h' F' ?_ ?_ ?_) hs ht hsz
  · rw [Array.toArray_toList]; exact N'
  · intro v hv
    unfold slicePick at hv
    simp only [List.mem_filterMap] at hv
    obtain ⟨i, _, e⟩ := hv
    exact List.mem_of_getElem? (by simpa using e)
  · rw [Array.length_toList]; exact slicePick_size_le its lo hi st
end
/-- an int of a list of the ledger, by what holds of its items -/
theorem item_int {prog : Program} {w : World} {A : Around} {E : Value → Shared → Prop} {s : Shared} {h₀ : Heap} {L l : Addr} {news : Led} {its : Array Value} {k : Nat} {i : Int} {u : Tok} {P : Int → Prop} {value slice : PySem.Expr} {Q : Value → Shared → Prop} (N : News h₀ L s.heap news) (hm : (l, listOf its k) ∈ news)
    (h0 : 0 ≤ i) (hi : i < (its.size : Int)) (hf : its.size ≤ 1000) (hb : ∀ v ∈ its.toList, ∃ a t, v = .int a t ∧ P a) (h : ∀ a t, P a → its.toList[i.toNat]? = some (.int a t) → Q (.int a t) s)
    (hs : subscripted slice false (.ref l) (.int i u) = operate [.ref l, .int i u] (getItem (.ref l) (.int i u)) := by with_unfolding_all rfl) :
    wpAny (model prog w) A (subscriptTail value slice (.ref l) (.int i u)) Q E s := by
  have hlt : i.toNat < its.toList.length := by rw [Array.length_toList]; omega
  obtain ⟨a, t, e, hp⟩ := hb _ (List.getElem_mem hlt)
  have e' : its.toList[i.toNat]? = some (.int a t) := by rw [List.getElem?_eq_getElem hlt, e]
  have hl : s.heap.IsList l its := ⟨_, (N _ hm).1, rfl, k, rfl⟩
  exact tail_any hl.typeIs slot_list_getitem.lookup (wpAny_getItem_list (x := .int a t) hl h0 (by omega) (by simpa using e') (h a t hp e')) hs
/-- a text of a list of the ledger -/
theorem item_text {prog : Program} {w : World} {A : Around} {E : Value → Shared → Prop} {s : Shared} {h₀ : Heap} {L l : Addr} {news : Led} {its : Array Value} {k : Nat} {i : Int} {u : Tok} (S : List Str) {value slice : PySem.Expr} {Q : Value → Shared → Prop} (N : News h₀ L s.heap news) (hm : (l, listOf its k) ∈ news)
    (h0 : 0 ≤ i) (hi : i < (its.size : Int)) (hf : its.size ≤ 1000) (hb : ∀ (j : Nat) v, its.toList[j]? = some v → ∃ x t, v = .str x t ∧ S[j]? = some x) (h : ∀ x t, S[i.toNat]? = some x → Q (.str x t) s)
    (hs : subscripted slice false (.ref l) (.int i u) = operate [.ref l, .int i u] (getItem (.ref l) (.int i u)) := by with_unfolding_all rfl) :
    wpAny (model prog w) A (subscriptTail value slice (.ref l) (.int i u)) Q E s := by
  have hlt : i.toNat < its.toList.length := by rw [Array.length_toList]; omega
  have e' : its.toList[i.toNat]? = some its.toList[i.toNat] := List.getElem?_eq_getElem hlt
  obtain ⟨x, t, e, hp⟩ := hb _ _ e'
  rw [e] at e'
  have hl : s.heap.IsList l its := ⟨_, (N _ hm).1, rfl, k, rfl⟩
  exact tail_any hl.typeIs slot_list_getitem.lookup (wpAny_getItem_list (x := .str x t) hl h0 (by omega) (by simpa using e') (h x t hp)) hs
theorem mdd_bnd {a b : Int} (hb : 0 < b) : 0 ≤ mdd a b ∧ mdd a b < b := by
  rw [mdd_eq, Int.fmod_eq_emod_of_nonneg _ (Int.le_of_lt hb)]
  exact ⟨Int.emod_nonneg _ (by omega), Int.emod_lt_of_pos _ hb⟩
end Mine
end

section
open PySem PySem.W PyProof.Rows PySem.Builtin PySem.Builtin.Str PySem.Builtin.Re
set_option Elab.async false
set_option maxRecDepth 100000
set_option maxHeartbeats 8000000
namespace Mine
theorem plainAttrs_re : PlainAttrs "re.Pattern" :=
  ⟨⟨"object.__getattribute__", by rw [typeLookup_type, builtinLookup_eq_fast]; kernel_rfl, by decide +kernel⟩, by rw [typeLookup_type, builtinLookup_eq_fast]; kernel_rfl⟩
theorem owner_re : Manifest.owners.lookup (String.ofList ['n', 'r', 'e', 't', 't', 'a', 'P', '.', 'e', 'r'].reverse) = some Manifest.sig_re_Pattern := by kernel_rfl
theorem slot_search : Slot "re.Pattern" "search" "re.Pattern.search" :=
  .of (owner := "re.Pattern") (n := "search") (by rw [typeLookup_type, builtinLookup_eq_fast]; kernel_rfl) (by decide +kernel) (by decide +kernel) (by decide +kernel)
    (by first | exact .inl (by decide +kernel) | exact .inr (by decide +kernel)) (by rw [isSubtype_type]; kernel_rfl)
theorem type_search : typeOf (.builtin "re.Pattern.search") = pure (.type "method_descriptor") := by show builtinType _ = _; rw [builtinType_eq_fast]; kernel_rfl
theorem entry_search : entryFor table "re.Pattern.search" = some Builtin.«re.Pattern.search» := entryFor_of_tree (by kernel_rfl)
theorem args_search_2 (a b : Value) : argsOk "re.Pattern.search" ⟨[a, b], []⟩ := by
  unfold argsOk; rw [signature?_of (id := "re.Pattern.search") (n := ['h', 'c', 'r', 'a', 'e', 's']) (o := ['n', 'r', 'e', 't', 't', 'a', 'P', '.', 'e', 'r']) (by kernel_rfl) owner_re]; kernel_rfl

noncomputable def codeN : Array Nat := #[14, 10, 4, 1, 1, 22, 0, 31, 16, 127, 0, 13, 7, 22, 0, 31, 16, 127, 0, 1]
noncomputable def codeV : Array Nat := #[14, 14, 4, 1, 1, 9, 4294966783, 0, 0, 2147483648, 0, 0, 0, 0, 0, 13, 11, 9, 4294966783, 0, 0, 2147483648, 0, 0, 0, 0, 0, 1]
/-- the search ends, and finds nothing -/
noncomputable def sreNone (code : Array Nat) (v : Str) : Bool := match ((Sre.forSearch code v.cps 0 0 v.cps.size false).runFor 40).outcome with | some .failed => true | _ => false

theorem runFor_done {m : Sre.M} (h : m.outcome.isSome = true) : ∀ n, m.runFor n = m
  | 0 => rfl
  | n + 1 => by unfold Sre.M.runFor; rw [if_pos h]
theorem runFor_add : ∀ (a b : Nat) (m : Sre.M), m.runFor (a + b) = (m.runFor a).runFor b
  | 0, b, m => by rw [Nat.zero_add]; rfl
  | a + 1, b, m => by
    rw [Nat.add_right_comm]
    show (if m.outcome.isSome = true then m else Sre.M.runFor (a + b) m.step) = Sre.M.runFor b (if m.outcome.isSome = true then m else Sre.M.runFor a m.step)
    by_cases h : m.outcome.isSome = true
    · rw [if_pos h, if_pos h, runFor_done h]
    · rw [if_neg h, if_neg h, runFor_add]
section
variable {M : Model} {A : Around} {E : Value → Shared → Prop} {s : Shared}
theorem wp_drive {Q : Sre.M → Shared → Prop} : ∀ (n turns : Nat) (m : Sre.M), n < turns → (∃ m', m.runFor (4 * n) = m' ∧ m'.outcome = some .failed) → (∀ m', m'.outcome = some .failed → Q m' s) → wpAny M A (reDrive turns m) Q E s
  | n, 0, _, h, _, _ => absurd h (Nat.not_lt_zero _)
  | n, turns + 1, m, h, ⟨m', e, hm⟩, hQ => by
    show wpAny M A (if ((m.runFor 4).outcome.isSome) = true then pure (m.runFor 4) else (rule "sre.turn" >>= fun _ => reDrive turns (m.runFor 4))) Q E s
    by_cases hs : (m.runFor 4).outcome.isSome = true
    · rw [if_pos hs]
      refine wpAny_pure (hQ _ ?_)
      cases n with
      | zero =>
        have e0 : m = m' := e
        have : m.outcome.isSome = true := by rw [e0, hm]; rfl
        rw [runFor_done this, e0]; exact hm
      | succ n =>
        have : m.runFor (4 * (n + 1)) = m.runFor 4 := by
          rw [show 4 * (n + 1) = 4 + 4 * n by omega, runFor_add, runFor_done hs]
        rw [← this, e]; exact hm
    · rw [if_neg hs]
      refine wpAny_bind (wpAny_rule ?_)
      cases n with
      | zero =>
        exfalso
        have e0 : m = m' := e
        have h1 : m.outcome.isSome = true := by rw [e0, hm]; rfl
        rw [runFor_done h1] at hs
        exact hs h1
      | succ n =>
        refine wp_drive n turns _ (by omega) ⟨m', ?_, hm⟩ hQ
        rw [← e, show 4 * (n + 1) = 4 + 4 * n by omega, runFor_add]
theorem wp_forRules {β : Type} {f : Nat → PUnit → Sem (ForInStep PUnit)} {Q : PUnit → Shared → Prop} (hf : ∀ i (Q' : ForInStep PUnit → Shared → Prop), Q' (.yield ⟨⟩) s → wpAny M A (f i ⟨⟩) Q' E s) (hQ : Q ⟨⟩ s) :
    ∀ l : List Nat, wpAny M A (forIn l (⟨⟩ : PUnit) f) Q E s
  | [] => by rw [List.forIn_nil]; exact wpAny_pure hQ
  | i :: l => by
    rw [List.forIn_cons]
    exact wpAny_bind (hf i _ (wp_forRules (β := β) hf hQ l))
theorem wp_runToEnd {m : Sre.M} {Q : Option Sre.M → Shared → Prop} (n : Nat) (hn : n < 2 ^ 64) (h : ∃ m', m.runFor (4 * n) = m' ∧ m'.outcome = some .failed) (hQ : Q none s) : wpAny M A (reRunToEnd m) Q E s := by
  unfold reRunToEnd
  refine wpAny_bind (wp_drive n (2 ^ 64) m hn h fun m' hm => ?_)
  refine wpAny_bind (wp_forRules (β := Unit) (fun i Q' hq => ?_) ?_ _)
  · split
    · exact wpAny_bind (wpAny_rule (wpAny_pure hq))
    · exact wpAny_bind (wpAny_pure (wpAny_pure hq))
  · rw [hm]
    exact wpAny_pure hQ
end
theorem target_N (w : World) (v : Str) (t : Tok) : peek (Mine.head.heap_1_39 w.params) ⟨PySem.Challenge.pw_re0169_01, w.params⟩ (reTarget "re.Pattern.search" "search" ⟨[.ref 65, .str v t], []⟩) =
    some { pattern := .ref 65, string := .str v t, code := codeN, text := v.cps, kind := 0, groups := 0, pos := min 0 v.cps.size, lim := min (2 ^ 63 - 1) v.cps.size } := by kernel_rfl
theorem target_V (w : World) (v : Str) (t : Tok) : peek (Mine.head.heap_1_39 w.params) ⟨PySem.Challenge.pw_re0169_01, w.params⟩ (reTarget "re.Pattern.search" "search" ⟨[.ref 70, .str v t], []⟩) =
    some { pattern := .ref 70, string := .str v t, code := codeV, text := v.cps, kind := 0, groups := 0, pos := min 0 v.cps.size, lim := min (2 ^ 63 - 1) v.cps.size } := by kernel_rfl
theorem call_search {w : World} {A : Around} {E : Value → Shared → Prop} {s : Shared} {Q : Value → Shared → Prop} {a : Addr} {v : Str} {t : Tok} {code : Array Nat} {o : Obj} (X : (Mine.head.heap_1_39 w.params).In s.heap) (ha : s.heap.get? a = some o) (hc : o.cls = .type "re.Pattern")
    (hp : peek (Mine.head.heap_1_39 w.params) ⟨PySem.Challenge.pw_re0169_01, w.params⟩ (reTarget "re.Pattern.search" "search" ⟨[.ref a, .str v t], []⟩) =
      some { pattern := .ref a, string := .str v t, code := code, text := v.cps, kind := 0, groups := 0, pos := min 0 v.cps.size, lim := min (2 ^ 63 - 1) v.cps.size })
    (hv : v.length ≤ 1000) (hn : sreNone code v = true) (h : Q .none s) : wpAny (model PySem.Challenge.pw_re0169_01 w) A (call (.builtin "re.Pattern.search") [.ref a, .str v t]) Q E s := by
  refine wpAny_call (codeAny_call_builtin slot_search.plain entry_search (slot_search.check _ _ _ _ _ _ _ _ ⟨o, ha, hc⟩ (args_search_2 _ _) ?_))
  show wpAny _ _ (reTarget "re.Pattern.search" "search" ⟨[.ref a, .str v t], []⟩ >>= fun t => reAnswer t (Sre.forSearch t.code t.text t.groups t.pos t.lim false)) _ _ _
  refine wpAny_bind ((Looks.of_peek X hp).here ?_)
  have e1 : min 0 v.cps.size = 0 := Nat.zero_min _
  have hv' : v.cps.size ≤ 1000 := hv
  have e2 : min (2 ^ 63 - 1) v.cps.size = v.cps.size := Nat.min_eq_right (by omega)
  dsimp only
  rw [e1, e2]
  unfold reAnswer
  dsimp only
  refine wpAny_bind (wp_runToEnd 10 (by decide) ⟨_, rfl, ?_⟩ ?_)
  · unfold sreNone at hn
    split at hn
    · assumption
    · cases hn
  · exact wpAny_pure h
theorem meth_search {w : World} {A : Around} {E : Value → Shared → Prop} {s : Shared} {Q : Value × List Value → Shared → Prop} {a : Addr} {pl : Sem Bool} {o : Obj} (ha : s.heap.get? a = some o) (hc : o.cls = .type "re.Pattern") (hd : o.dict = none)
    (h : Q (.builtin "re.Pattern.search", [.ref a]) s) : wpAny (model PySem.Challenge.pw_re0169_01 w) A (getMethod (.ref a) (Str.ofString "search") pl) Q E s :=
  getMethod_builtin ⟨o, ha, hc⟩ plainAttrs_re slot_search type_search (fun a' e => by cases e; exact ⟨o, ha, hd⟩) h
theorem at65 (w : World) : ((Mine.head.heap_1_39 w.params).lookup 65).map (fun o => (o.cls, o.dict)) = some (.type "re.Pattern", none) := by kernel_rfl
theorem at70 (w : World) : ((Mine.head.heap_1_39 w.params).lookup 70).map (fun o => (o.cls, o.dict)) = some (.type "re.Pattern", none) := by kernel_rfl
theorem at_of {w : World} {h : Heap} {a : Addr} (X : (Mine.head.heap_1_39 w.params).In h) (e : ((Mine.head.heap_1_39 w.params).lookup a).map (fun o => (o.cls, o.dict)) = some (.type "re.Pattern", none)) : ∃ o, h.get? a = some o ∧ o.cls = .type "re.Pattern" ∧ o.dict = none := by
  cases q : (Mine.head.heap_1_39 w.params).lookup a with
  | none => rw [q] at e; cases e
  | some o =>
    rw [q] at e
    have e' := Option.some.inj e
    exact ⟨o, X _ _ q, congrArg Prod.fst e', congrArg Prod.snd e'⟩
section
variable {w : World} {A : Around} {E : Value → Shared → Prop} {s : Shared} {h₀ : Heap} {L : Addr} {m : Str → Option Value}
theorem walk_meth65 {Q : Value × List Value → Shared → Prop} {pl : Sem Bool} (F : Fr h₀ L s.heap m) (X : (Mine.head.heap_1_39 w.params).In h₀) (h : Q (.builtin "re.Pattern.search", [.ref 65]) s) : wpAny (model PySem.Challenge.pw_re0169_01 w) A (getMethod (.ref 65) (Str.ofString "search") pl) Q E s := by
  obtain ⟨o, a, b, c⟩ := at_of (X.keeps F.keep) (at65 w)
  exact meth_search a b c h
theorem walk_meth70 {Q : Value × List Value → Shared → Prop} {pl : Sem Bool} (F : Fr h₀ L s.heap m) (X : (Mine.head.heap_1_39 w.params).In h₀) (h : Q (.builtin "re.Pattern.search", [.ref 70]) s) : wpAny (model PySem.Challenge.pw_re0169_01 w) A (getMethod (.ref 70) (Str.ofString "search") pl) Q E s := by
  obtain ⟨o, a, b, c⟩ := at_of (X.keeps F.keep) (at70 w)
  exact meth_search a b c h
theorem walk_call65 {Q : Value → Shared → Prop} {v : Str} {t : Tok} (F : Fr h₀ L s.heap m) (X : (Mine.head.heap_1_39 w.params).In h₀) (hv : v.length ≤ 1000) (hn : sreNone codeN v = true) (h : Q .none s) : wpAny (model PySem.Challenge.pw_re0169_01 w) A (call (.builtin "re.Pattern.search") [.ref 65, .str v t]) Q E s := by
  obtain ⟨o, a, b, c⟩ := at_of (X.keeps F.keep) (at65 w)
  exact call_search (X.keeps F.keep) a b (target_N w v t) hv hn h
theorem walk_call70 {Q : Value → Shared → Prop} {v : Str} {t : Tok} (F : Fr h₀ L s.heap m) (X : (Mine.head.heap_1_39 w.params).In h₀) (hv : v.length ≤ 1000) (hn : sreNone codeV v = true) (h : Q .none s) : wpAny (model PySem.Challenge.pw_re0169_01 w) A (call (.builtin "re.Pattern.search") [.ref 70, .str v t]) Q E s := by
  obtain ⟨o, a, b, c⟩ := at_of (X.keeps F.keep) (at70 w)
  exact call_search (X.keeps F.keep) a b (target_V w v t) hv hn h
end
local macro_rules | `(tactic| walk_at "getMethod ref") => `(tactic| (k_here; first | (refine' walk_meth65 ?k1 ?k2 ?_; (case k1 => k_asm); (case k2 => k_asm); k_whole) | (refine' walk_meth70 ?k1 ?k2 ?_; (case k1 => k_asm); (case k2 => k_asm); k_whole)))
local macro_rules | `(tactic| walk_at "call builtin:re.Pattern.search") => `(tactic| (k_here; first | (refine' walk_call65 ?k1 ?k2 ?k3 ?k4 ?_; (case k1 => k_asm); (case k2 => k_asm); (case k3 => assumption); (case k4 => assumption); k_whole) | (refine' walk_call70 ?k1 ?k2 ?k3 ?k4 ?_; (case k1 => k_asm); (case k2 => k_asm); (case k3 => assumption); (case k4 => assumption); k_whole)))
theorem convN_con (w : World) (news : Led) (self : Addr) (v : Str) (t : Tok) (hv : v.length ≤ 1000) (hn : sreNone codeN v = true) :
   ConK 5 w 100 [.ref self, .str v t] [(Str.ofString "name", .bool true)] news (fun r news' => r = .str v t ∧ news' = news) := by
  w_top off; (have hFill : Mine.fillT PySem.Challenge.rw_re0169_01 Mine.head.heap_1_39 := (by k_fill; exact ⟨rfl, rfl⟩); clear hFill)
  (try unfold Mine.Con)
  unfold Mine.ConK
  intro mean mg mb dp un gd cn cs a ccd cl outer A₀ base h₀ L m s Q E B F X N T hk hdp hun hret
  refine wpAny_call ?_
  k_dflt (refine' code_def (binds := [(Str.ofString "self", .ref self), (Str.ofString "value", .str v t), (Str.ofString "name", .bool true)]) ?k1 ?k2 ?k3 ?k4 ?k5 ?kA ?kF ?kK ?k6 ?k7 ?k8 ?k9 ?kB ?_ ?c2 ?c3 ?c4 ?c5; (case kA => exact rfl); (case kF => exact rfl); (case kK => assumption); (case k1 => k_asm); (case k2 => k_asm); (case k3 => k_asm); (case k4 => k_asm); (case k5 => k_asm); (case k6 => k_is); (case k7 => k_is); (case k8 => ktr_room); (case k9 => first | exact BindsTo.of_eq rfl | exact binds_K (by k_in) rfl (by k_is) rfl rfl rfl); (case c5 => decide); (case kB => exact locs rfl); (case c2 => exact rfl); (case c3 => exact rfl); (case c4 => exact rfl); k_whole; intro g0 L0 h1 FG0 F1 N1 B1 X1 T1; (try dsimp only); (try k_fold))
  k_steps
  exact hret _ news _ _ (by assumption) (by assumption) ⟨rfl, rfl⟩
theorem convV_con (w : World) (news : Led) (self : Addr) (v : Str) (t : Tok) (hv : v.length ≤ 1000) (hn : sreNone codeV v = true) :
   ConK 5 w 100 [.ref self, .str v t] [(Str.ofString "name", .bool false)] news (fun r news' => r = .str v t ∧ news' = news) := by
  w_top off; (have hFill : Mine.fillT PySem.Challenge.rw_re0169_01 Mine.head.heap_1_39 := (by k_fill; exact ⟨rfl, rfl⟩); clear hFill)
  (try unfold Mine.Con)
  unfold Mine.ConK
  intro mean mg mb dp un gd cn cs a ccd cl outer A₀ base h₀ L m s Q E B F X N T hk hdp hun hret
  refine wpAny_call ?_
  k_dflt (refine' code_def (binds := [(Str.ofString "self", .ref self), (Str.ofString "value", .str v t), (Str.ofString "name", .bool false)]) ?k1 ?k2 ?k3 ?k4 ?k5 ?kA ?kF ?kK ?k6 ?k7 ?k8 ?k9 ?kB ?_ ?c2 ?c3 ?c4 ?c5; (case kA => exact rfl); (case kF => exact rfl); (case kK => assumption); (case k1 => k_asm); (case k2 => k_asm); (case k3 => k_asm); (case k4 => k_asm); (case k5 => k_asm); (case k6 => k_is); (case k7 => k_is); (case k8 => ktr_room); (case k9 => first | exact BindsTo.of_eq rfl | exact binds_K (by k_in) rfl (by k_is) rfl rfl rfl); (case c5 => decide); (case kB => exact locs rfl); (case c2 => exact rfl); (case c3 => exact rfl); (case c4 => exact rfl); k_whole; intro g0 L0 h1 FG0 F1 N1 B1 X1 T1; (try dsimp only); (try k_fold))
  k_steps
  exact hret _ news _ _ (by assumption) (by assumption) ⟨rfl, rfl⟩
noncomputable def GoodN (s : Str) : Prop := s.length ≤ 1000 ∧ sreNone codeN s = true
noncomputable def GoodV (s : Str) : Prop := s.length ≤ 1000 ∧ sreNone codeV s = true
end Mine
end

section
open PySem PySem.W PyProof.Rows PySem.Builtin PySem.Builtin.Str
set_option Elab.async false
set_option maxRecDepth 100000
set_option maxHeartbeats 8000000
namespace Mine
local macro_rules | `(tactic| k_mem) => `(tactic| (first | with_reducible assumption | assumption))
local macro_rules | `(tactic| k_all) => `(tactic| with_reducible assumption)
local macro_rules | `(tactic| walk_at "call builtin:len") => `(tactic| (k_here; (with_reducible show wpAny _ _ (call (Value.builtin _) [Value.ref _]) _ _ _); k_dflt (refine' Mine.len_listN ?k1 ?k2 ?z ?_; (case k1 => k_asm); (case k2 => k_mem); (case z => (simp only [Mine.strValues_length, Mine.hvals_length, Mine.rvals_length]; omega)); k_whole); (try simp only [Mine.strValues_length, Mine.hvals_length, Mine.rvals_length]); (try dsimp only)))
local macro_rules | `(tactic| walk_at "call builtin:list.append") => `(tactic| (k_here; (with_reducible show wpAny _ _ (call (Value.builtin _) [Value.ref _, _]) _ _ _); k_dflt (refine' append_K ?k1 ?k2 ?k3 ?_ ?z; (case k1 => k_asm); (case k2 => k_asm); (case k3 => k_upd); (case z => (simp only [List.size_toArray, Mine.strValues_length, Mine.hvals_length, Mine.rvals_length, sizeLine]; omega)); k_whole); intro h' F' N'; (try simp only [List.push_toArray] at N'); (try k_sweep)))
local macro_rules | `(tactic| walk_at "call ref") => `(tactic| (k_here; (with_reducible show wpAny _ _ (call (Value.ref 100) _ _) _ _ _); k_dflt (refine' Mine.ConK.usa (convN_con _ _ _ _ _ ?z1 ?z2) ?_; (case z1 => assumption); (case z2 => assumption); k_whole); intro r9 nw9 h9 tk9 F9 N9 hp9; obtain ⟨e9, f9⟩ := hp9; subst e9; subst f9; (try dsimp only); (try k_sweep)))
local macro_rules | `(tactic| walk_at "call ref") => `(tactic| (k_here; (with_reducible show wpAny _ _ (call (Value.ref 100) _ _) _ _ _); k_dflt (refine' Mine.ConK.usa (convV_con _ _ _ _ _ ?z1 ?z2) ?_; (case z1 => assumption); (case z2 => assumption); k_whole); intro r9 nw9 h9 tk9 F9 N9 hp9; obtain ⟨e9, f9⟩ := hp9; subst e9; subst f9; (try dsimp only); (try k_sweep)))
local macro_rules | `(tactic| k_upd) => `(tactic| exact UpdAll.at (by assumption))
theorem add_con (w : World) (news : Led) (newsF : Obj → Led) (self dx hl : Addr) (vs : List Value) (k : Nat) (n v : Str) (t u tk : Tok) (hn : n.length ≤ 1000) (hv : v.length ≤ 1000) (hn' : sreNone codeN n = true) (hv' : sreNone codeV v = true)
    (h1 : (self, instObj 199 dx) ∈ news) (h2 : (dx, dictOf [⟨PyData.keyHash w.params (Str.ofString "_headers"), .str (Str.ofString "_headers") tk, .ref hl⟩] 1) ∈ news) (h3 : (hl, listOf vs.toArray k) ∈ news)
    (hUF : UpdF hl (listOf vs.toArray k) news newsF) (hsz : vs.length ≤ 1000) :
   Con 10 w 196 [.ref self, .str n t, .str v u] news (fun r news' => r = .none ∧ ∃ T t', (∀ p ∈ news, p.1 < T) ∧ news' = (T, tup2 n t v t') :: newsF (listOf (vs ++ [Value.ref T]).toArray (k + 1))) := by
  have hU := updF_all hUF
  w_top off; (have hFill : Mine.fillT PySem.Challenge.rw_re0169_01 Mine.head.heap_1_39 := (by k_fill; exact ⟨rfl, rfl⟩); clear hFill)
  (try unfold Mine.Con)
  unfold Mine.ConK
  intro mean mg mb dp un gd cn cs a ccd cl outer A₀ base h₀ L m s Q E B F X N T hk hdp hun hret
  refine wpAny_call ?_
  k_dflt (refine' kp_more ?k1 ?k2 ?k3 ?k4 ?k5 ?kA ?kF ?kK ?k6 ?k7 ?k8 ?kX ?kM ?kN ?kD ?kR ?kP ?kT ?kB ?_ ?c2 ?c3 ?c4 ?c5; (case kA => exact rfl); (case kF => exact rfl); (case kK => assumption); (case k1 => k_asm); (case k2 => k_asm); (case k3 => k_asm); (case k4 => k_asm); (case k5 => k_asm); (case k6 => k_is); (case k7 => k_is); (case k8 => ktr_room); (case kX => kp_lit); (case kM => exact rfl); (case kN => exact rfl); (case kD => kp_flats); (case kR => exact rfl); (case kP => exact rfl); (case kT => exact fun _ => rfl); (case kB => exact fun _ => locs rfl); (case c5 => decide); (case c2 => exact rfl); (case c3 => exact rfl); (case c4 => exact rfl); k_whole; intro D1 o1 g0 L0 h1 tk1 l1 lo1 hs1 fs1 FG0 F1 N1 B1 X1 T1; (try dsimp only); (try k_fold))
  have hlt : @LT.lt Nat _ hl D1 := l1 _ h3
  k_steps
  rename News g0 L0 _ _ => N9
  refine append_K (by assumption) (sub_1_4 N9) (Upd.tail (by k_ne) (UpdAll.at hU)) ?_ (by simp only [List.size_toArray, sizeLine]; omega)
  intro h5 F5 N5
  k_steps
  rename Fr h₀ L _ _ => F9
  rename News h₀ L _ _ => N9
  simp only [List.push_toArray] at N9
  rw [show Txt.join (Str.ofString "; ") [v] = v from rfl] at N9
  refine hret _ _ _ _ F9 N9 ⟨rfl, _, _, ?hh, rfl⟩
  intro p hp
  exact Nat.lt_trans (l1 p hp) (ltN (by omega))
end Mine
end

section
open PySem PySem.W PyProof.Rows PySem.Builtin PySem.Builtin.Str
set_option Elab.async false
set_option maxRecDepth 100000
set_option maxHeartbeats 8000000
namespace Mine
/-- the table of operators, as the top leaves it -/
noncomputable def tokE : List (Str × Tok × Int × Tok) := [
  (Str.ofString "!", 405, 54, 401),
  (Str.ofString "!=", 407, 28, 349),
  (Str.ofString "%", 409, 24, 341),
  (Str.ofString "%=", 411, 40, 373),
  (Str.ofString "&", 413, 19, 331),
  (Str.ofString "&=", 415, 41, 375),
  (Str.ofString "(", 417, 7, 307),
  (Str.ofString ")", 419, 8, 309),
  (Str.ofString "*", 421, 16, 325),
  (Str.ofString "**", 423, 35, 363),
  (Str.ofString "**=", 425, 46, 385),
  (Str.ofString "*=", 427, 38, 369),
  (Str.ofString "+", 429, 14, 321),
  (Str.ofString "+=", 431, 36, 365),
  (Str.ofString ",", 433, 12, 317),
  (Str.ofString "-", 435, 15, 323),
  (Str.ofString "-=", 437, 37, 367),
  (Str.ofString "->", 439, 51, 395),
  (Str.ofString ".", 441, 23, 339),
  (Str.ofString "...", 443, 52, 397),
  (Str.ofString "/", 445, 17, 327),
  (Str.ofString "//", 447, 47, 387),
  (Str.ofString "//=", 449, 48, 389),
  (Str.ofString "/=", 451, 39, 371),
  (Str.ofString ":", 453, 11, 315),
  (Str.ofString ":=", 455, 53, 399),
  (Str.ofString ";", 457, 13, 319),
  (Str.ofString "<", 459, 20, 333),
  (Str.ofString "<<", 461, 33, 359),
  (Str.ofString "<<=", 463, 44, 381),
  (Str.ofString "<=", 465, 29, 351),
  (Str.ofString "=", 467, 22, 337),
  (Str.ofString "==", 469, 27, 347),
  (Str.ofString ">", 471, 21, 335),
  (Str.ofString ">=", 473, 30, 353),
  (Str.ofString ">>", 474, 34, 361),
  (Str.ofString ">>=", 475, 45, 383),
  (Str.ofString "@", 476, 49, 391),
  (Str.ofString "@=", 477, 50, 393),
  (Str.ofString "[", 478, 9, 311),
  (Str.ofString "]", 479, 10, 313),
  (Str.ofString "^", 480, 32, 357),
  (Str.ofString "^=", 481, 43, 379),
  (Str.ofString "{", 482, 25, 343),
  (Str.ofString "|", 483, 18, 329),
  (Str.ofString "|=", 484, 42, 377),
  (Str.ofString "}", 485, 26, 345),
  (Str.ofString "~", 486, 31, 355)]
noncomputable def tab46 (P : Params) (l : List (Str × Tok × Int × Tok)) : List DictEntry := l.map fun e => ⟨PyData.keyHash P e.1, .str e.1 e.2.1, .int e.2.2.1 e.2.2.2⟩
theorem at46 (w : World) : (Mine.head.heap_1_39 w.params).lookup 46 = some ⟨.type "dict", none, .dict (tab46 w.params tokE).toArray 48, #[]⟩ := by kernel_rfl
noncomputable def tokLook (x : Str) : Option (Int × Tok) := (tokE.find? fun e => decide (e.1 = x)).map fun e => e.2.2
theorem tab46_keys (P : Params) : ∀ l, KeysLit P (tab46 P l)
  | [] => trivial
  | e :: r => ⟨⟨e.1, e.2.1, rfl, rfl⟩, tab46_keys P r⟩
theorem tab46_find (P : Params) (x : Str) : ∀ l : List (Str × Tok × Int × Tok), (tab46 P l).find? (fun d => Value.isStrOf x d.key) = ((l.find? fun e => decide (e.1 = x)).map fun e => ⟨PyData.keyHash P e.1, .str e.1 e.2.1, .int e.2.2.1 e.2.2.2⟩)
  | [] => rfl
  | e :: r => by
    show List.find? _ (_ :: tab46 P r) = _
    rw [List.find?_cons, List.find?_cons, tab46_find P x r]
    have : Value.isStrOf x (Value.str e.1 e.2.1) = decide (e.1 = x) := by
      by_cases h : e.1 = x <;> simp [Value.isStrOf, h]
    dsimp only
    rw [this]
    cases decide (e.1 = x) <;> rfl
section
variable {w : World} {A : Around} {E : Value → Shared → Prop} {s : Shared} {h₀ : Heap} {L : Addr} {m : Str → Option Value} {x : Str} {t : Tok}
theorem tok_look (P : Params) (x : Str) : findBy Value.isStrOf (tab46 P tokE).toArray x = (tokLook x).map fun e => Value.int e.1 e.2 := by
  unfold findBy tokLook
  rw [List.find?_toArray, tab46_find]
  cases tokE.find? fun e => decide (e.1 = x) <;> rfl
theorem tok_map {h : Heap} (X : (Mine.head.heap_1_39 w.params).In h) : h.MapOf (strKind PySem.Challenge.pw_re0169_01 w) 46 (fun k => (tokLook k).map fun e => Value.int e.1 e.2) := by
  have := mapOf_K (prog := PySem.Challenge.pw_re0169_01) X (at46 w) (by simpa using tab46_keys w.params tokE)
  have e : (fun k => findBy Value.isStrOf (tab46 w.params tokE).toArray k) = fun k => (tokLook k).map fun e => Value.int e.1 e.2 := funext fun k => tok_look _ k
  rw [e] at this
  exact this
theorem tok_notin {Q : Value → Shared → Prop} (F : Fr h₀ L s.heap m) (X : (Mine.head.heap_1_39 w.params).In h₀) (h : Q (.bool (!(tokLook x).isSome)) { s with toks := s.toks + 1 }) :
    wpAny (model PySem.Challenge.pw_re0169_01 w) A (compareOp .NotIn (.str x t) (.ref 46)) Q E s :=
  wpAny_notIn_of (strKind_is _ _ x t) (by decide) (tok_map (X.keeps F.keep)) (by
    have e : ((tokLook x).map fun e => Value.int e.1 e.2).isSome = (tokLook x).isSome := by cases tokLook x <;> rfl
    rw [e]; exact h)
theorem tok_get {Q : Value → Shared → Prop} {d : Int} {u : Tok} (F : Fr h₀ L s.heap m) (X : (Mine.head.heap_1_39 w.params).In h₀) (h : ∀ tk, Q (.int (((tokLook x).map (·.1)).getD d) tk) { s with toks := s.toks + 1 }) :
    wpAny (model PySem.Challenge.pw_re0169_01 w) A (call (.builtin "dict.get") [.ref 46, .str x t, .int d u]) Q E s := by
  have M := tok_map (w := w) (X.keeps F.keep)
  refine call_meetsIn PySem.F.slot_dict_get M.typeIs PySem.F.entry_dict_get (PySem.F.args_dict_get_3 _ _ _) (meets_dict_get_default (strKind PySem.Challenge.pw_re0169_01 w) 46 (strKind_is _ _ x t) (by decide) (.int d u)) ⟨_, M, ?_⟩
  revert h
  cases tokLook x with
  | none => intro h; exact h u
  | some e => intro h; exact h e.2
theorem tok_meth {Q : Value × List Value → Shared → Prop} {pl : Sem Bool} (F : Fr h₀ L s.heap m) (X : (Mine.head.heap_1_39 w.params).In h₀) (h : Q (.builtin "dict.get", [.ref 46]) s) : wpAny (model PySem.Challenge.pw_re0169_01 w) A (getMethod (.ref 46) "get" pl) Q E s := by
  have M := tok_map (w := w) (X.keeps F.keep)
  exact getMethod_builtin M.typeIs PySem.F.plainAttrs_dict PySem.F.slot_dict_get PySem.F.type_dict_get M.noDict h
end
end Mine
end

section
open PySem PySem.W PyProof.Rows PySem.Spec PyProof.V PySem.Calls
set_option maxRecDepth 100000
namespace Mine
section
variable {prog : Program} {w : World} {A : Around} {E : Value → Shared → Prop} {R : Result → Shared → Prop} {s : Shared}
theorem compTurn_two0 (elt t1 i1 t2 i2 : PySem.Expr) (scope : Scope) (pos : Pos) (it acc : Value) (env : Env) :
    compTurn (.ListComp elt [⟨t1, i1, [], 0⟩, ⟨t2, i2, [], 0⟩] scope pos) 0 it acc env = (standAt i1.pos >>= fun _ => pyNext it >>= fun r => match r with
      | none => pure (.done .next)
      | some v => letOwnedTupleGo t1 it v >>= fun _ => assign t1 env v >>= fun _ =>
        (eval i2 env >>= fun x => standAt i2.pos >>= fun _ => foldedSetIterable i2 env x >>= fun x => holding [x] (pyIter x) >>= fun it2 =>
          runOwn (.compStart (.ListComp elt [⟨t1, i1, [], 0⟩, ⟨t2, i2, [], 0⟩] scope pos) 1 it2 acc env) env >>= fun _ =>
          again (.compLoop (.ListComp elt [⟨t1, i1, [], 0⟩, ⟨t2, i2, [], 0⟩] scope pos) 0 it acc env))) := by rfl
theorem compTurn_two1 (elt t1 i1 t2 i2 : PySem.Expr) (scope : Scope) (pos : Pos) (it acc : Value) (env : Env) :
    compTurn (.ListComp elt [⟨t1, i1, [], 0⟩, ⟨t2, i2, [], 0⟩] scope pos) 1 it acc env = (standAt i2.pos >>= fun _ => pyNext it >>= fun r => match r with
      | none => pure (.done .next)
      | some v => letOwnedTupleGo t2 it v >>= fun _ => assign t2 env v >>= fun _ =>
        (eval elt env >>= fun x => call (.builtin "list.append") [acc, x] >>= fun _ => pure ()) >>= fun _ =>
          again (.compLoop (.ListComp elt [⟨t1, i1, [], 0⟩, ⟨t2, i2, [], 0⟩] scope pos) 1 it acc env)) := by rfl
noncomputable abbrev twoE (elt t1 i1 t2 i2 : PySem.Expr) (scope : Scope) (pos : Pos) : PySem.Expr := .ListComp elt [⟨t1, i1, [], 0⟩, ⟨t2, i2, [], 0⟩] scope pos
theorem codeAny_two0 {elt t1 i1 t2 i2 : PySem.Expr} {scope : Scope} {pos : Pos} {it acc : Value} {env : Env} (I : Nat → Shared → Prop)
    (turn : ∀ n s, I n s → wpAny (model prog w) A (pyNext it) (fun r s₁ => match r with
      | none => R (.ok .next) s₁
      | some v => wpAny (model prog w) A (assign t1 env v) (fun _ s₂ => wpAny (model prog w) A (eval i2 env) (fun x s₃ => wpAny (model prog w) A (pyIter x) (fun it2 s₄ =>
          codeAny (model prog w) A (.compStart (twoE elt t1 i1 t2 i2 scope pos) 1 it2 acc env) (fun r s₅ => match r with | .ok _ => ∃ m, m < n ∧ I m s₅ | .error _ => False) s₄)
          (notedBy (model prog w) A env fun e s' => R (.error e) s') s₃) (notedBy (model prog w) A env fun e s' => R (.error e) s') s₂) (notedBy (model prog w) A env fun e s' => R (.error e) s') s₁) (notedBy (model prog w) A env fun e s' => R (.error e) s') s)
    (n : Nat) (h : I n s) (ht : ∀ v, letOwnedTupleGo t1 it v = pure () := by intro _; rfl) (hs : ∀ x, foldedSetIterable i2 env x = pure x := by intro _; rfl) :
    codeAny (model prog w) A (.compLoop (twoE elt t1 i1 t2 i2 scope pos) 0 it acc env) R s := by
  refine codeAny_loop rfl I (fun n s hI => ?_) n h
  show wpAny _ A ((compTurn (twoE elt t1 i1 t2 i2 scope pos) 0 it acc env).onRaise (fun x => do noteFrame x env; theTreesLotGoes x)) _ _ s
  refine wpAny_noted ?_
  rw [compTurn_two0]
  refine wpAny_bind (wpAny_standAt (wpAny_bind (wpAny_mono (turn n s hI) (fun r s₁ h₁ => ?_) fun _ _ h' => h')))
  cases r with
  | none => exact wpAny_pure h₁
  | some v =>
    refine wpAny_bind (wpAny_of_eq (ht v) ?_)
    refine wpAny_bind (wpAny_mono h₁ (fun _ s₂ h₂ => ?_) fun _ _ h' => h')
    refine wpAny_bind (wpAny_mono h₂ (fun x s₃ h₃ => ?_) fun _ _ h' => h')
    refine wpAny_bind (wpAny_standAt (wpAny_bind (wpAny_of_eq (hs x) (wpAny_bind (wpAny_holding (wpAny_mono h₃ (fun it2 s₄ h₄ => ?_) fun _ _ h' => h'))))))
    refine wpAny_bind (wpAny_runOwn (codeAny_mono h₄ fun r s₅ h₅ => ?_))
    cases r with
    | ok f => exact wpAny_pure ⟨rfl, h₅⟩
    | error e => exact h₅.elim
theorem codeAny_two1 {elt t1 i1 t2 i2 : PySem.Expr} {scope : Scope} {pos : Pos} {it acc : Value} {env : Env} (I : Nat → Shared → Prop)
    (turn : ∀ n s, I n s → wpAny (model prog w) A (pyNext it) (fun r s₁ => match r with
      | none => R (.ok .next) s₁
      | some v => wpAny (model prog w) A (assign t2 env v) (fun _ s₂ => wpAny (model prog w) A (eval elt env) (fun x s₃ =>
          wpAny (model prog w) A (call (.builtin "list.append") [acc, x]) (fun _ s₄ => ∃ m, m < n ∧ I m s₄) (notedBy (model prog w) A env fun e s' => R (.error e) s') s₃)
          (notedBy (model prog w) A env fun e s' => R (.error e) s') s₂) (notedBy (model prog w) A env fun e s' => R (.error e) s') s₁) (notedBy (model prog w) A env fun e s' => R (.error e) s') s)
    (n : Nat) (h : I n s) (ht : ∀ v, letOwnedTupleGo t2 it v = pure () := by intro _; rfl) :
    codeAny (model prog w) A (.compLoop (twoE elt t1 i1 t2 i2 scope pos) 1 it acc env) R s := by
  refine codeAny_loop rfl I (fun n s hI => ?_) n h
  show wpAny _ A ((compTurn (twoE elt t1 i1 t2 i2 scope pos) 1 it acc env).onRaise (fun x => do noteFrame x env; theTreesLotGoes x)) _ _ s
  refine wpAny_noted ?_
  rw [compTurn_two1]
  refine wpAny_bind (wpAny_standAt (wpAny_bind (wpAny_mono (turn n s hI) (fun r s₁ h₁ => ?_) fun _ _ h' => h')))
  cases r with
  | none => exact wpAny_pure h₁
  | some v =>
    refine wpAny_bind (wpAny_of_eq (ht v) ?_)
    exact wpAny_bind (wpAny_mono h₁ (fun _ s₂ h₂ => wpAny_bind (wpAny_bind (wpAny_mono h₂ (fun x s₃ h₃ => wpAny_bind (wpAny_mono h₃
      (fun _ s₄ h₄ => wpAny_pure (wpAny_pure ⟨rfl, h₄⟩)) fun _ _ h' => h')) fun _ _ h' => h'))) fun _ _ h' => h')
theorem codeAny_start1 {elt t1 i1 t2 i2 : PySem.Expr} {scope : Scope} {pos : Pos} {it acc : Value} {env : Env}
    (h0 : codeAny (model prog w) A (.compLoop (twoE elt t1 i1 t2 i2 scope pos) 1 it acc env) R s)
    (h : wpAny (model prog w) A (pyIter it) (fun it' s' => codeAny (model prog w) A (.compLoop (twoE elt t1 i1 t2 i2 scope pos) 1 it' acc env) R s')
      (notedBy (model prog w) A env fun x s' => R (.error x) s') s) :
    codeAny (model prog w) A (.compStart (twoE elt t1 i1 t2 i2 scope pos) 1 it acc env) R s := by
  refine codeAny_of_tree ?_
  show wpAny _ _ ((compStart (twoE elt t1 i1 t2 i2 scope pos) 1 it acc env).onRaise (fun x => do noteFrame x env; standAt theWindowsPlace)) _ _ s
  refine wpAny_notedAt ?_
  unfold compStart
  show wpAny _ _ (ask >>= _) _ _ s
  refine wpAny_bind (wpAny_askSetting (wpAny_ite ?_))
  split
  · first
      | exact wpAny_bind (wpAny_pure (wpAny_pure (And.intro rfl h0)))
      | exact wpAny_pure (And.intro rfl h0)
  · first
      | exact wpAny_bind (wpAny_rule (wpAny_bind (wpAny_standAt (wpAny_bind (wpAny_mono h (fun it' s' h' => wpAny_pure (And.intro rfl h')) fun _ _ x => x)))))
      | (refine wpAny_bind (wpAny_rule ?_); show wpAny _ _ (standAt i2.pos >>= _) _ _ s; exact wpAny_bind (wpAny_standAt (wpAny_bind (wpAny_mono h (fun it' s' h' => wpAny_pure (And.intro rfl h')) fun _ _ x => x))))
end
section
variable {prog : Program} {w : World} {A : Around} {E : Value → Shared → Prop} {R : Result → Shared → Prop} {s : Shared} {env : Env} {h₀ : Heap} {m : Str → Option Value}
theorem lst_strs (l : List (Str × Tok)) (x : Str) (t : Tok) : ({ cls := .type "list", data := .seq ((strValues l).toArray.push (.str x t)) ((strValues l).length + 1) } : Obj) = LCg.lst (strValues (l ++ [(x, t)])) := by
  rw [strValues_append]
  exact LCg.lst_snoc (strValues l) (.str x t)
/-- the inner clause: a text's signs behind one word -/
theorem two_inner {x1 x2 lit : Str} {q1 q2 q3 px1 px2 : Pos} {i1 i2 : PySem.Expr} {scope : Scope} {cl : List (Str × Addr)} {pos : Pos} {I2 C D : Addr} {tl : Tok} {m' : Str → Option Value} {a : Str} {ta : Tok} {l : List (Str × Tok)} {rest : Led} {lits : List Str}
    (hh : A.handled = none) (hkind : scope.kind = .function) (hx1 : scope.names.lookup x1 = some .local) (hx2 : scope.names.lookup x2 = some .local) (hxx : x1 ≠ x2)
    (hd1 : (x1 == ("__debug__" : Str)) = false) (hd2 : (x2 == ("__debug__" : Str)) = false)
    (hst : s.heap.IsStrIter I2 "str_ascii_iterator" lit tl 0) (F : Fr h₀ env.locals s.heap m) (hn : s.heap.Ns C m') (hm' : m' x1 = some (.str a ta)) (N : News h₀ env.locals s.heap ((D, LCg.lst (strValues l)) :: rest))
    (hy : lit.cps.toList.map (fun c => (⟨#[c]⟩ : Str)) = lits) (hal : a.length ≤ 100) (hlz : l.length ≤ 1000) (hlits : lit.cps.size ≤ 100)
    (hCL : C ≠ env.locals) (hC₀ : h₀.get? C = none) (hI₀ : h₀.get? I2 = none) (hIL : I2 ≠ env.locals) (hIC : I2 ≠ C) (hDC : D ≠ C) (hDI : D ≠ I2) (off : ∀ p ∈ rest, p.1 ≠ I2 ∧ p.1 ≠ C ∧ p.1 ≠ D)
    (hR : ∀ h' tk m'' l', Fr h₀ env.locals h' m → h'.Ns C m'' → News h₀ env.locals h' ((D, LCg.lst (strValues (l ++ l'))) :: rest) → l'.map (·.1) = lits.map (a ++ ·) → R (.ok .next) { s with heap := h', toks := tk }) :
    codeAny (model prog w) A (.compStart (twoE (.BinOp (.Name x1 q1) .Add (.Name x2 q2) q3) (.Name x1 px1) i1 (.Name x2 px2) i2 scope pos) 1 (.ref I2) (.ref D) (compEnvC scope cl C env)) R s := by
  have W : Walks prog w A I2 [I2] [I2] lit.cps.size (SignAt lit) (fun i h => h.IsStrIter I2 "str_ascii_iterator" lit tl i) := Walks.strAscii hh _ lit tl
  have hD := N _ (.head _)
  have loop : codeAny (model prog w) A (.compLoop (twoE (.BinOp (.Name x1 q1) .Add (.Name x2 q2) q3) (.Name x1 px1) i1 (.Name x2 px2) i2 scope pos) 1 (.ref I2) (.ref D) (compEnvC scope cl C env)) R s := by
    refine codeAny_two1 (fun n s' => ∃ h' tk j m'' l', s' = { s with heap := h', toks := tk } ∧ j ≤ lit.cps.size ∧ n = lit.cps.size - j ∧ h'.IsStrIter I2 "str_ascii_iterator" lit tl j ∧ Fr h₀ env.locals h' m ∧ h'.Ns C m'' ∧ m'' x1 = some (.str a ta) ∧
      News h₀ env.locals h' ((D, LCg.lst (strValues (l ++ l'))) :: rest) ∧ l'.map (·.1) = (lits.take j).map (a ++ ·)) ?_ _
      ⟨s.heap, s.toks, 0, m', [], rfl, Nat.zero_le _, rfl, hst, F, hn, hm', by rw [List.append_nil]; exact N, rfl⟩
    rintro n s' ⟨h', tk, j, m'', l', rfl, hj, rfl, hst', F', hn', hm'', N', hl'⟩
    have hD' := N' _ (.head _)
    by_cases hlt : j < lit.cps.size
    · refine W.item j _ _ _ hlt hst' fun v h₂ tk₂ hv hst₂ hk₂ => ?_
      obtain ⟨c, u, hc, rfl⟩ := hv
      have hcj : lits[j]? = some (⟨#[c]⟩ : Str) := by
        rw [← hy, List.getElem?_map]
        have : lit.cps.toList[j]? = some c := by simpa using hc
        rw [this]; rfl
      have F₂ := LCg.fr_but F' hk₂ (Ne.symm hIL) hI₀
      have hn₂ : h₂.Ns C m'' := hn'.at' fun o e => hk₂ _ o (by simpa using Ne.symm hIC) e
      have N₂ := LCg.news_but N' hk₂ fun p hp => by
        rcases List.mem_cons.mp hp with rfl | hp
        · exact hDI
        · exact (off p hp).1
      refine wpAny_assign_Name (wpAny_storeName_local (lookup_relabel_local hx2) hn₂ (fun h₃ hn₃ hs₃ => ?_) (by simp [compEnvC, relabel, hkind]))
      have F₃ : Fr h₀ env.locals h₃ m := F₂.change hs₃ hCL hC₀
      have hst₃ := hst₂.extBut hs₃.extBut hIC
      have N₃ : News h₀ env.locals h₃ ((D, LCg.lst (strValues (l ++ l'))) :: rest) := fun p hp => by
        have z := N₂ p hp
        refine ⟨hs₃.extBut _ _ ?_ z.1, z.2⟩
        rcases List.mem_cons.mp hp with rfl | hp
        · exact hDC
        · exact (off p hp).2.1
      refine wpAny_BinOp (wpAny_Name (wpAny_loadName_local (by simp [compEnvC, relabel, hkind]) (lookup_relabel_local hx1) hn₃ (v := .str a ta) (by rw [if_neg hxx]; exact hm'') (wpAny_Name (wpAny_loadName_local (by simp [compEnvC, relabel, hkind]) (lookup_relabel_local hx2) hn₃ (v := .str ⟨#[c]⟩ u) (by simp)
        (PyProof.Rows.add_str (fun t' tk' => ?_) (by rw [sizeLine_eq]; show a.length + 1 ≤ _; omega))) hd2)) hd1)
      have hll : l'.length = j := by
        have := congrArg List.length hl'
        rw [List.length_map, List.length_map, List.length_take, ← hy, List.length_map] at this
        simp only [Array.length_toList] at this
        omega
      refine append_at (hsz := by simp only [List.size_toArray, strValues_length, List.length_append, sizeLine]; omega) (N₃ _ (.head _)).1 fun h₄ hs₄ hD₄ => ?_
      refine ⟨lit.cps.size - (j + 1), by omega, h₄, tk', j + 1, _, l' ++ [(a ++ ⟨#[c]⟩, t')], rfl, hlt, rfl, hst₃.extBut hs₄.extBut (Ne.symm hDI), F₃.change hs₄ hD'.2.1 hD'.2.2, hn₃.sameBut hs₄ (Ne.symm hDC), by rw [if_neg hxx]; exact hm'', fun p hp => ?_, ?_⟩
      · rcases List.mem_cons.mp hp with rfl | hp
        · refine ⟨?_, hD'.2⟩
          rw [hD₄, lst_strs, List.append_assoc]
        · exact ⟨hs₄.extBut _ _ (off p hp).2.2 (N₃ p (.tail _ hp)).1, (N₃ p (.tail _ hp)).2⟩
      · rw [List.map_append, hl', take_snoc hcj, List.map_append]; rfl
    · obtain rfl : j = lit.cps.size := Nat.le_antisymm hj (Nat.not_lt.mp hlt)
      refine W.done _ _ _ hst' fun h₂ tk₂ hk₂ => ?_
      refine hR h₂ tk₂ m'' l' (LCg.fr_but F' hk₂ (Ne.symm hIL) hI₀) (hn'.at' fun o e => hk₂ _ o (by simpa using Ne.symm hIC) e) (LCg.news_but N' hk₂ fun p hp => ?_) ?_
      · rcases List.mem_cons.mp hp with rfl | hp
        · exact hDI
        · exact (off p hp).1
      · rw [hl', List.take_of_length_le]
        rw [← hy]; simp
  exact codeAny_start1 loop (wpAny_pyIter_striter_ascii hst loop)
noncomputable def okOnly (P : Shared → Prop) (r : Result) (s : Shared) : Prop := match r with
  | .ok _ => P s
  | .error _ => False
theorem comp_two {x1 x2 y lit : Str} {q1 q2 q3 px1 px2 py : Pos} {i1 i2 : PySem.Expr} {scope : Scope} {cl : List (Str × Addr)} {pos spos : Pos} {ax : Addr} {k : Nat} {ls : List (Str × Tok)} {news : Led} {lits : List Str} {Q : Flow → Shared → Prop}
    (hh : A.handled = none) (F : Fr h₀ env.locals s.heap m) (N : News h₀ env.locals s.heap news) (hax : (ax, listOf (strValues ls).toArray k) ∈ news)
    (hsw : swapsWith (twoE (.BinOp (.Name x1 q1) .Add (.Name x2 q2) q3) (.Name x1 px1) i1 (.Name x2 px2) i2 scope pos) (some (.Name y py)) spos.line env = pure true)
    (hclos : closureFor scope env = pure cl) (hcell : ∀ z ∈ scope.names, z.2 ≠ .cell) (hkind : scope.kind = .function)
    (hnames : ∀ z ∈ scope.names, z.2 = .local → scope.names.lookup z.1 = some .local) (hx1 : scope.names.lookup x1 = some .local) (hx2 : scope.names.lookup x2 = some .local) (hxx : x1 ≠ x2)
    (hd1 : (x1 == ("__debug__" : Str)) = false) (hd2 : (x2 == ("__debug__" : Str)) = false)
    (hy : env.kindOf y = some .local) (hp : (env.scope.kind == .class || (env.scope.kind == .module && env.locals != env.globals)) = false)
    (hiter : ∀ Q : Value → Shared → Prop, Q (.ref ax) s → wpAny (model prog w) A (eval i1 env) Q E s)
    (hlit : ∀ (C : Addr) (s' : Shared) (Q : Value → Shared → Prop) (E' : Value → Shared → Prop), (∀ t tk, Q (.str lit t) { s' with toks := tk }) → wpAny (model prog w) A (eval i2 (compEnvC scope cl C env)) Q E' s')
    (ha : lit.cps.all (· < 128) = true) (hyl : lit.cps.toList.map (fun c => (⟨#[c]⟩ : Str)) = lits) (hlits : lit.cps.size ≤ 10) (hlen : ∀ p ∈ ls, p.1.length ≤ 100) (hlsn : ls.length ≤ 100)
    (h : ∀ D h' tk l, Fr h₀ env.locals h' (fun z => if z = y then some (.ref D) else m z) → News h₀ env.locals h' ((D, LCg.lst (strValues l)) :: news) → (∀ p ∈ news, p.1 < D) → l.map (·.1) = (ls.map (·.1)).flatMap (fun a => lits.map (a ++ ·)) →
      Q .next { s with heap := h', toks := tk })
    (hf1 : ∀ x, foldedSetIterable i1 env x = pure x := by intro _; rfl) (hf2 : ∀ C x, foldedSetIterable i2 (compEnvC scope cl C env) x = pure x := by intro _ _; rfl) :
    wpAny (model prog w) A (exec (.Assign [.Name y py] (twoE (.BinOp (.Name x1 q1) .Add (.Name x2 q2) q3) (.Name x1 px1) i1 (.Name x2 px2) i2 scope pos) spos) env) Q E s := by
  rw [exec_Assign_Name_used _ _ _ _ hsw]
  refine wpAny_bind (wpAny_standAt (wpAny_bind ?_))
  show wpAny _ A (do let _ ← comprehension (twoE (.BinOp (.Name x1 q1) .Add (.Name x2 q2) q3) (.Name x1 px1) i1 (.Name x2 px2) i2 scope pos) scope env _ (newList []) false (eval i1 env) (some (assign (.Name y py) env))) _ _ s
  refine wpAny_bind (wpAny_mono (wpAny_comprehension_free (use := some (assign (.Name y py) env)) (Q := fun _ s' => Q .next s') rfl hf1 hclos hkind hnames
    (hiter _ ?_)) (fun _ s' hq => wpAny_pure (wpAny_pure hq)) fun _ _ e => e)
  have hl : s.heap.IsList ax (strValues ls).toArray := ⟨_, (N _ hax).1, rfl, k, rfl⟩
  have hlt : ax < s.heap.objs.size := Heap.lt_size (N _ hax).1
  refine wpAny_pyIter_list hl ?_
  refine wpAny_newObj_type (wpAny_newFunctionEnv hcell (by intro y hy; simp at hy) (fun h₁ hns₁ hsb₁ => ?_) hkind)
  dsimp only at hns₁ hsb₁ ⊢
  generalize hI : s.heap.objs.size = I at *
  generalize hH1 : s.heap.push { cls := .type "list_iterator", data := .fields #[.ref ax, .int 0 0] } = H1 at *
  have hs1 : H1.objs.size = I + 1 := by rw [← hH1, Heap.size_push, hI]
  generalize hD : H1.objs.size = D at *
  generalize hH2 : H1.push { cls := .type "list", dict := none, data := .seq ([] : List Value).toArray } = H2 at *
  have hs2 : H2.objs.size = I + 2 := by rw [← hH2, Heap.size_push, hD, hs1]
  generalize hC : H2.objs.size = C at *
  have up1 : ∀ b o, s.heap.get? b = some o → H1.get? b = some o := fun b o e => hH1 ▸ Heap.get?_push_of_some _ e
  have up2 : ∀ b o, H1.get? b = some o → H2.get? b = some o := fun b o e => hH2 ▸ Heap.get?_push_of_some _ e
  have up3 : ∀ b o, H2.get? b = some o → (H2.push { cls := .type (if (some env).isSome = true then "dict" else "frame"), data := .dict #[] }).get? b = some o := fun b o e => Heap.get?_push_of_some _ e
  have old : ∀ b o, s.heap.get? b = some o → h₁.get? b = some o := fun b o e => hsb₁.extBut b o (by
    have : @LT.lt Nat _ b I := hI ▸ Heap.lt_size e
    refine neN ?_; omega) (up3 _ _ (up2 _ _ (up1 _ _ e)))
  have fresh₀ : ∀ a, I ≤ a → h₀.get? a = none := fun a ha => by
    cases e : h₀.get? a with
    | none => rfl
    | some o' =>
      have h1 : @LT.lt Nat _ a I := hI ▸ Heap.lt_size (F.keep a o' e)
      exact absurd h1 (Nat.not_lt.mpr ha)
  have hI₀ := fresh₀ I (Nat.le_refl _)
  have hD₀ := fresh₀ D (by rw [hs1]; exact Nat.le_add_right _ _)
  have hC₀ := fresh₀ C (by rw [hs2]; exact Nat.le_add_right _ _)
  have hLlt : @LT.lt Nat _ env.locals I := hI ▸ F.ns.lt
  have hIL : I ≠ env.locals := Nat.ne_of_gt hLlt
  have hDL : D ≠ env.locals := by refine neN ?_; omega
  have hCL : C ≠ env.locals := by refine neN ?_; omega
  have hIC : I ≠ C := by refine neN ?_; omega
  have hID : I ≠ D := by refine neN ?_; omega
  have hDC : D ≠ C := by refine neN ?_; omega
  have below : ∀ p ∈ news, @LT.lt Nat _ p.1 I := fun p hp => hI ▸ Heap.lt_size (N p hp).1
  have hIo1 : H1.get? I = some { cls := .type "list_iterator", data := .fields #[.ref ax, .int 0 0] } := by rw [← hH1, ← hI]; exact Heap.get?_push_size _ rfl
  have hDo1 : H2.get? D = some (LCg.lst (strValues [])) := by rw [← hH2, ← hD]; exact Heap.get?_push_size _ rfl
  have hIo : h₁.get? I = some { cls := .type "list_iterator", data := .fields #[.ref ax, .int 0 0] } := hsb₁.extBut _ _ hIC (up3 _ _ (up2 _ _ hIo1))
  have hDo : h₁.get? D = some (LCg.lst (strValues [])) := hsb₁.extBut _ _ hDC (up3 _ _ hDo1)
  have F₁ : Fr h₀ env.locals h₁ m := F.keeps old
  have N₁ : News h₀ env.locals h₁ ((D, LCg.lst (strValues [])) :: news) := fun p hp => by
    rcases List.mem_cons.mp hp with rfl | hp
    · exact ⟨hDo, hDL, hD₀⟩
    · exact ⟨old _ _ (N p hp).1, (N p hp).2⟩
  have W : Walks prog w A I [I, ax] [I] (strValues ls).toArray.size _ _ := Walks.list hh I ax (Nat.ne_of_lt hlt) (strValues ls).toArray
  have hsz : (strValues ls).toArray.size = ls.length := by rw [List.size_toArray, strValues_length]
  have offI : ∀ p ∈ news, p.1 ≠ I := fun p hp => Nat.ne_of_lt (below p hp)
  have offC : ∀ p ∈ news, p.1 ≠ C := fun p hp => by have := below p hp; refine neN ?_; omega
  have offD : ∀ p ∈ news, p.1 ≠ D := fun p hp => by have := below p hp; refine neN ?_; omega
  have loop : codeAny (model prog w) A (.compLoop (twoE (.BinOp (.Name x1 q1) .Add (.Name x2 q2) q3) (.Name x1 px1) i1 (.Name x2 px2) i2 scope pos) 0 (.ref I) (.ref D) (compEnvC scope cl C env))
      (compPost (model prog w) A E (some (assign (.Name y py) env)) (fun _ s' => Q .next s') (.ref D) C) { s with heap := h₁, toks := s.toks + ([] : List (Str × Value)).length } := by
    refine codeAny_two0 (fun n s' => ∃ h' tk i m' l, s' = { s with heap := h', toks := tk } ∧ i ≤ ls.length ∧ n = ls.length - i ∧ h'.IsListIter I ax i ∧ h'.IsList ax (strValues ls).toArray ∧ Fr h₀ env.locals h' m ∧ h'.Ns C m' ∧
      News h₀ env.locals h' ((D, LCg.lst (strValues l)) :: news) ∧ l.map (·.1) = ((ls.map (·.1)).take i).flatMap (fun a => lits.map (a ++ ·))) ?_ _
      ⟨h₁, _, 0, _, [], rfl, Nat.zero_le _, rfl, ⟨_, hIo, rfl, rfl⟩, hl.at fun o e => old _ _ e, F₁, hns₁, N₁, rfl⟩ (by intro _; rfl) (hf2 C)
    rintro n s' ⟨h', tk, i, m', l, rfl, hi, rfl, hit, hil, F', hn', N', hl'⟩
    by_cases hil2 : i < ls.length
    · refine W.item i _ _ _ (hsz ▸ hil2) ⟨hit, hil⟩ fun v h₂ tk₂ hv hst₂ hk₂ => ?_
      have hv' : (strValues ls)[i]? = some v := by simpa using hv
      obtain ⟨a, ta, rfl, hai⟩ := strValues_get hv'
      have hall : a.length ≤ 100 := by
        obtain ⟨p, hpm, rfl⟩ := List.mem_map.mp (List.mem_of_getElem? hai)
        exact hlen p hpm
      have F₂ := LCg.fr_but F' hk₂ (Ne.symm hIL) hI₀
      have hn₂ : h₂.Ns C m' := hn'.at' fun o e => hk₂ _ o (by simpa using Ne.symm hIC) e
      have N₂ := LCg.news_but N' hk₂ fun p hp => by
        rcases List.mem_cons.mp hp with rfl | hp
        · exact Ne.symm hID
        · exact offI p hp
      refine wpAny_assign_Name (wpAny_storeName_local (lookup_relabel_local hx1) hn₂ (fun h₃ hn₃ hs₃ => ?_) (by simp [compEnvC, relabel, hkind]))
      have F₃ : Fr h₀ env.locals h₃ m := F₂.change hs₃ hCL hC₀
      have hit₃ := hst₂.1.extBut hs₃.extBut hIC
      obtain ⟨oI, hoI, hoI2⟩ := id hit₃
      have N₃ : News h₀ env.locals h₃ ((D, LCg.lst (strValues l)) :: (I, oI) :: news) := fun p hp => by
        rcases List.mem_cons.mp hp with rfl | hp
        · have z := N₂ _ (.head _)
          exact ⟨hs₃.extBut _ _ hDC z.1, z.2⟩
        · rcases List.mem_cons.mp hp with rfl | hp
          · exact ⟨hoI, hIL, hI₀⟩
          · have z := N₂ p (.tail _ hp)
            exact ⟨hs₃.extBut _ _ (offC p hp) z.1, z.2⟩
      refine hlit C _ _ _ fun tlit tk₃ => ?_
      refine wpAny_pyIter_ascii ha ?_
      dsimp only at hn₃ ⊢
      have hlt3 : ∀ b o, h₃.get? b = some o → @LT.lt Nat _ b h₃.objs.size := fun b o e => Heap.lt_size e
      have hClt : @LT.lt Nat _ C h₃.objs.size := hn₃.lt
      have hup : ∀ b o, h₃.get? b = some o → (h₃.push { cls := .type "str_ascii_iterator", data := .fields #[.str lit tlit, .int 0 0] }).get? b = some o := fun b o e => Heap.get?_push_of_some _ e
      refine codeAny_mono (two_inner (s := { s with heap := h₃.push { cls := .type "str_ascii_iterator", data := .fields #[.str lit tlit, .int 0 0] }, toks := tk₃ }) (R := okOnly fun s₅ => ∃ n', n' < ls.length - i ∧ ∃ h' tk i m' l, s₅ = { s with heap := h', toks := tk } ∧ i ≤ ls.length ∧ n' = ls.length - i ∧ h'.IsListIter I ax i ∧ h'.IsList ax (strValues ls).toArray ∧ Fr h₀ env.locals h' m ∧ h'.Ns C m' ∧
          News h₀ env.locals h' ((D, LCg.lst (strValues l)) :: news) ∧ l.map (·.1) = ((ls.map (·.1)).take i).flatMap (fun a => lits.map (a ++ ·)))
        (l := l) (rest := (I, oI) :: news) (m' := fun z => if z = x1 then some (.str a ta) else m' z) (a := a) (ta := ta) (I2 := h₃.objs.size) hh hkind hx1 hx2 hxx hd1 hd2 ⟨_, Heap.get?_push_size _ rfl, rfl, rfl⟩ (F₃.keeps hup) (hn₃.at' fun o e => hup _ o e) (by simp)
        (fun p hp => ⟨hup _ _ (N₃ p hp).1, (N₃ p hp).2⟩) hyl hall ?_ (by omega) hCL hC₀ ?_ ?_ ?_ hDC ?_ ?_ ?_) fun r s₅ h₅ => by cases r <;> exact h₅
      · have := congrArg List.length hl'
        rw [List.length_map] at this
        rw [this]
        have hb : ∀ (zs : List Str), (zs.flatMap (fun a => lits.map (a ++ ·))).length = zs.length * lits.length := by
          intro zs
          induction zs with
          | nil => simp
          | cons z r ih => rw [List.flatMap_cons, List.length_append, ih, List.length_map, List.length_cons, Nat.succ_mul, Nat.add_comm]
        rw [hb]
        have h1 : ((ls.map (·.1)).take i).length ≤ 100 := by simp; omega
        have h2 : lits.length ≤ 10 := by rw [← hyl]; simpa using hlits
        exact Nat.le_trans (Nat.mul_le_mul h1 h2) (by omega)
      · cases e : h₀.get? h₃.objs.size with
        | none => rfl
        | some o' => exact absurd (hlt3 _ _ (F₃.keep _ _ e)) (Nat.lt_irrefl _)
      · exact Nat.ne_of_gt F₃.ns.lt
      · exact Nat.ne_of_gt hClt
      · exact Nat.ne_of_lt (hlt3 _ _ (N₃ _ (.head _)).1)
      · intro p hp
        refine ⟨Nat.ne_of_lt (hlt3 _ _ (N₃ p (.tail _ hp)).1), ?_⟩
        rcases List.mem_cons.mp hp with rfl | hp
        · exact ⟨hIC, hID⟩
        · exact ⟨offC p hp, offD p hp⟩
      · intro h' tk' m'' l' F'' hn'' N'' hl''
        refine ⟨ls.length - (i + 1), by omega, h', tk', i + 1, m'', l ++ l', rfl, hil2, rfl, ?_, ?_, F'', hn'', fun p hp => ?_, ?_⟩
        · exact ⟨oI, (N'' _ (.tail _ (.head _))).1, hoI2⟩
        · exact ⟨_, (N'' _ (.tail _ (.tail _ hax))).1, rfl, k, rfl⟩
        · rcases List.mem_cons.mp hp with rfl | hp
          · exact N'' _ (.head _)
          · exact N'' _ (.tail _ (.tail _ hp))
        · rw [List.map_append, hl', hl'', take_snoc hai, List.flatMap_append]
          simp
    · obtain rfl : i = ls.length := Nat.le_antisymm hi (Nat.not_lt.mp hil2)
      refine W.done _ _ _ (by rw [hsz]; exact ⟨hit, hil⟩) fun h₂ tk₂ hk₂ => ?_
      have F₂ := LCg.fr_but F' hk₂ (Ne.symm hIL) hI₀
      have hn₂ : h₂.Ns C m' := hn'.at' fun o e => hk₂ _ o (by simpa using Ne.symm hIC) e
      have N₂ := LCg.news_but N' hk₂ fun p hp => by
        rcases List.mem_cons.mp hp with rfl | hp
        · exact Ne.symm hID
        · exact offI p hp
      show wpAny _ A (assign (.Name y py) env (.ref D)) _ _ _
      refine wpAny_assign_Name (wpAny_storeName_local hy F₂.ns (fun h₃ hn₃ hs₃ => ?_) hp)
      have hL₀ : h₀.get? env.locals = none := Heap.get?_none_of_le F₂.above
      have F₃ : Fr h₀ env.locals h₃ (fun z => if z = y then some (.ref D) else m z) := ⟨hn₃, fun b o e => hs₃.extBut b o (fun q => by rw [q, hL₀] at e; cases e) (F₂.keep b o e), F₂.above⟩
      refine ⟨m', hn₂.sameBut hs₃ hCL, fun h'' hs'' => h D h'' _ l (F₃.change hs'' hCL hC₀) (fun p hp => ?_) (fun p hp => ?_) ?_⟩
      · have z : h₃.get? p.1 = some p.2 := hs₃.extBut _ _ (N₂ p hp).2.1 (N₂ p hp).1
        refine ⟨hs''.extBut _ _ ?_ z, (N₂ p hp).2⟩
        rcases List.mem_cons.mp hp with rfl | hp
        · exact hDC
        · exact offC p hp
      · have := below p hp
        refine ltN ?_; omega
      · rw [hl', List.take_of_length_le (by simp)]
  exact codeAny_compStart_list loop (W.self 0 _ _ _ ⟨⟨_, hIo, rfl, rfl⟩, hl.at fun o e => old _ _ e⟩ loop)
end
end Mine
end

section
open PySem PySem.W PyProof.Rows PySem.Spec PyProof.V PySem.Calls
set_option maxRecDepth 100000
namespace Mine
section
variable {prog : Program} {w : World} {A : Around} {E : Value → Shared → Prop} {s : Shared} {env : Env} {h₀ : Heap} {L : Addr} {m : Str → Option Value}
/-- a comprehension's turns by an invariant, any source -/
theorem restG_inv {elt : PySem.Expr} {x : Str} {scope : Scope} {cl : List (Str × Addr)} {P : Nat → Value → Prop} {n : Nat} {news : Led} {Fin : List Value → Led → Prop} (J : Nat → List Value → Prop) (h0 : J 0 [])
    (turn : ∀ (i : Nat) (v : Value) ys I oI C oC D m₂ h tk (E' : Value → Shared → Prop), i < n → P i v → J i ys → LCg.NsObj oC m₂ → m₂ x = some v → Fr h₀ L h m → News h₀ L h ((I, oI) :: (C, oC) :: (D, LCg.lst ys) :: news) → LCg.Off3 I C D news → ((@Ne Nat I C) ∧ (@Ne Nat I D) ∧ (@Ne Nat C D)) →
        wpAny (model prog w) A (eval elt (compEnvC scope cl C env)) (LCg.CompEnd h₀ L m { s with heap := h, toks := tk } I oI C oC D (LCg.lst ys) (fun _ => True) (fun y news' => news' = news ∧ J (i + 1) (ys ++ [y]))) E' { s with heap := h, toks := tk })
    (fin : ∀ ys, J n ys → Fin ys news) :
    LCg.CompRest prog w A h₀ L m env elt x scope cl s (fun _ => True) P Fin n 0 [] news := by
  have key : ∀ (j i : Nat) (ys : List Value), i + j = n → J i ys → LCg.CompRest prog w A h₀ L m env elt x scope cl s (fun _ => True) P Fin j i ys news := by
    intro j
    induction j with
    | zero =>
      intro i ys hi hJ
      obtain rfl : i = n := hi
      exact LCg.CompRest.zero (fin ys hJ)
    | succ j ih =>
      intro i ys hi hJ
      refine LCg.CompRest.succ ?_
      intro v I oI C oC D m₂ h tk E' hP hC hx F N off ne
      refine wpAny_mono (turn i v ys I oI C oC D m₂ h tk E' (by omega) hP hJ hC hx F N off ne) (fun y s₃ hr => ?_) fun _ _ e => e
      obtain ⟨h', tk', nw, e, F', N', off', hS', rfl, hr'⟩ := hr
      exact ⟨h', tk', nw, e, F', N', off', hS', ih (i + 1) _ (by omega) hr'⟩
  exact key n 0 [] (by omega) h0
/-- a comprehension over a text's signs -/
theorem ListComp_S {elt iter : PySem.Expr} {x : Str} {px : Pos} {scope : Scope} {cl : List (Str × Addr)} {pos : Pos} {v : Str} {t : Tok} {news : Led} {Q : Value → Shared → Prop} (hh : A.handled = none) (F : Fr h₀ L s.heap m) (N : News h₀ L s.heap news)
    (hclos : closureFor scope env = pure cl) (hcell : ∀ y ∈ scope.names, y.2 ≠ .cell) (hkind : scope.kind = .function)
    (hnames : ∀ y ∈ scope.names, y.2 = .local → scope.names.lookup y.1 = some .local) (hx : scope.names.lookup x = some .local)
    (ha : v.cps.all (· < 128) = true) (hsz : v.cps.size ≤ 1000)
    (hiter : ∀ Q : Value → Shared → Prop, Q (.str v t) s → wpAny (model prog w) A (eval iter env) Q E s)
    (h : ∀ g, LCg.CompRest prog w A h₀ L m env elt x scope cl { s with heap := g } (fun _ => True) (SignAt v) (LCg.FinE h₀ L m { s with heap := g } Q) v.cps.size 0 [] news)
    (hs : ∀ x, foldedSetIterable iter env x = pure x := by intro _; rfl) :
    wpAny (model prog w) A (eval (.ListComp elt [⟨.Name x px, iter, [], 0⟩] scope pos) env) Q E s := by
  rw [eval_ListComp]
  refine wpAny_comprehension_free (use := none) rfl hs hclos hkind hnames (hiter _ ?_)
  refine wpAny_pyIter_ascii ha ?_
  have up : ∀ b o, s.heap.get? b = some o → (s.heap.push { cls := .type "str_ascii_iterator", data := .fields #[.str v t, .int 0 0] }).get? b = some o := fun b o e => Heap.get?_push_of_some _ e
  refine LCg.block_U (S := fun _ => True) (Walks.strAscii hh s.heap.objs.size v t) (by rw [sizeLine_eq]; omega) (fun i h st => by obtain ⟨o, e, _⟩ := st; exact ⟨o, e⟩) (fun i h h' o nw st e e' _ _ _ => ?_) hcell hkind hx ⟨_, Heap.get?_push_size _ rfl, rfl, rfl⟩ (fun b hb => ?_)
    (F.keeps up) (N.grown up) (Nat.ne_of_lt F.ns.lt) (next_is_new F) (fun p hp => Nat.ne_of_lt (Heap.lt_size (N p hp).1)) trivial (h _) ?_
  · obtain ⟨o', e1, r⟩ := st
    rw [e] at e1
    cases e1
    exact ⟨o, e', r⟩
  · rw [List.mem_singleton.mp hb]
    show s.heap.objs.size < (s.heap.push _).objs.size
    rw [Heap.size_push]; exact Nat.lt_succ_self _
  · intro D C h tk m' ys news' F' N' o1 hn hC₀ hD₀ hCL hDL hCD offC fin
    refine ⟨m', hn, fun h'' hs'' => fin D h'' tk (F'.change hs'' hCL hC₀) (fun p hp => ?_) o1⟩
    refine ⟨hs''.extBut _ _ ?_ (N' p hp).1, (N' p hp).2⟩
    rcases List.mem_cons.mp hp with rfl | hp
    · exact Ne.symm hCD
    · exact offC p hp
end
end Mine
end

section
local macro_rules | `(tactic| k_mem) => `(tactic| (first | with_reducible assumption | assumption))
local macro_rules | `(tactic| k_all) => `(tactic| with_reducible assumption)
local macro_rules | `(tactic| walk_at "call builtin:len") => `(tactic| (k_here; (with_reducible show wpAny _ _ (call (Value.builtin _) [Value.ref _]) _ _ _); k_dflt (refine' Mine.len_listN ?k1 ?k2 ?z ?_; (case k1 => k_asm); (case k2 => k_mem); (case z => (simp only [Mine.strValues_length, Mine.hvals_length, Mine.rvals_length]; omega)); k_whole); (try simp only [Mine.strValues_length, Mine.hvals_length, Mine.rvals_length]); (try dsimp only)))
local macro_rules | `(tactic| walk_at "call builtin:list.append") => `(tactic| (k_here; (with_reducible show wpAny _ _ (call (Value.builtin _) [Value.ref _, _]) _ _ _); k_dflt (refine' append_K ?k1 ?k2 ?k3 ?_ ?z; (case k1 => k_asm); (case k2 => k_asm); (case k3 => k_upd); (case z => (simp only [List.size_toArray, Mine.strValues_length, Mine.hvals_length, Mine.rvals_length, sizeLine]; omega)); k_whole); intro h' F' N'; (try simp only [List.push_toArray] at N'); (try k_sweep)))
local macro_rules | `(tactic| walk_at "exec For Name Name cons nil") => `(tactic| (refine Mine.stopAt ?_))
local macro_rules | `(tactic| walk_at "exec For Name Call cons nil") => `(tactic| (refine Mine.stopAt ?_))
local macro_rules | `(tactic| walk_at "exec For Name Constant cons nil") => `(tactic| (refine Mine.stopAt ?_))
local macro_rules | `(tactic| walk_at "exec For Tuple Name cons nil") => `(tactic| (refine Mine.stopAt ?_))
local macro_rules | `(tactic| walk_at "exec For Tuple Call cons nil") => `(tactic| (refine Mine.stopAt ?_))
local macro_rules | `(tactic| walk_at "exec For Name Attribute cons nil") => `(tactic| (refine Mine.stopAt ?_))
local macro_rules | `(tactic| walk_at "exec While Compare cons nil") => `(tactic| (refine Mine.stopAt ?_))
local macro_rules | `(tactic| walk_at "exec While BoolOp cons nil") => `(tactic| (refine Mine.stopAt ?_))
local macro_rules | `(tactic| walk_at "exec While Name cons nil") => `(tactic| (refine Mine.stopAt ?_))
local macro_rules | `(tactic| walk_at "pyIter ref") => `(tactic| (refine Mine.stopAt ?_))
local macro_rules | `(tactic| walk_at "pyIter str") => `(tactic| (refine Mine.stopAt ?_))
local macro_rules | `(tactic| walk_at "CompSrcT") => `(tactic| (refine Mine.stopAt ?_))
local macro_rules | `(tactic| walk_at "CompSrc") => `(tactic| (refine Mine.stopAt ?_))
local macro_rules | `(tactic| walk_at "SrcLP") => `(tactic| (refine Mine.stopAt ?_))

section
open PySem PySem.W PyProof.Rows PySem.Builtin PySem.Builtin.Str
set_option Elab.async false
set_option maxRecDepth 100000
set_option maxHeartbeats 8000000
namespace Mine
noncomputable def find4 (x y : Str) (i j : Int) : Int := match occurrences x y (fromIndex x.length i) (min (fromIndex x.length j) x.length) 1 with | k :: _ => (k : Int) | [] => -1
theorem gives_find4 (x y : Str) (i j : Int) (t u v v' : Tok) : Gives («str.find» ⟨[.str x t, .str y u, .int i v, .int j v'], []⟩) (.int (find4 x y i j)) := by
  unfold find4
  show Gives (match occurrences x y (fromIndex x.length i) (min (fromIndex x.length j) x.length) 1 with | k :: _ => retInt k | [] => (do rule "str.find.not-found"; retInt (-1))) _
  cases occurrences x y (fromIndex x.length i) (min (fromIndex x.length j) x.length) 1 with
  | nil => exact .rule (.of_eq rfl)
  | cons k _ => exact .of_eq rfl
theorem call_find4 {prog : Program} {w : World} {A : Around} {E : Value → Shared → Prop} {s : Shared} {x y : Str} {t u v v' : Tok} {i j : Int} {Q : Value → Shared → Prop}
   (hq : Q (.int (find4 x y i j) s.toks) { s with toks := s.toks + 1 }) : wpAny (model prog w) A (call (.builtin "str.find") [.str x t, .str y u, .int i v, .int j v']) Q E s :=
  call_gives PySem.F.slot_str_find (typeIs_str _ _ _) PySem.F.entry_str_find (PySem.F.args_str_find_4 _ _ _ _) (gives_find4 x y i j t u v v') hq
local macro_rules | `(tactic| walk_at "call builtin:str.find") => `(tactic| refine call_find4 ?_)

/-- the search of the pieces, one behind the other -/
noncomputable def seek (got : Str) : Int → List Str → Bool
  | _, [] => true
  | p, w :: r => if find4 got w p got.length < 0 then false else seek got (find4 got w p got.length + w.length) r

theorem ell_con (w : World) (news : Led) (want got : Str) (mids : List Str) (t u : Tok) (hw : want.length ≤ 1000) (hg : got.length ≤ 1000)
   (hin : (occurrences want (Str.ofString "...") 0 want.length 1).isEmpty = false)
   (hsp : Txt.split want (Str.ofString "...") = Str.empty :: (mids ++ [Str.empty])) :
   Con 5 w 45 [.str want t, .str got u] news (fun r news' => r = .bool (seek got 0 (Txt.split want (Str.ofString "..."))) ∧ news' = news) := by
  w_top off; (have hFill : Mine.fillT PySem.Challenge.rw_re0169_01 Mine.head.heap_1_39 := (by k_fill; exact ⟨rfl, rfl⟩); clear hFill)
  (try unfold Mine.Con)
  unfold Mine.ConK
  intro mean mg mb dp un gd cn cs a ccd cl outer A₀ base h₀ L m s Q E B F X N T hk hdp hun hret
  refine wpAny_call ?_
  k_dflt (refine' code_def (binds := [(Str.ofString "want", .str want t), (Str.ofString "got", .str got u)]) ?k1 ?k2 ?k3 ?k4 ?k5 ?kA ?kF ?kK ?k6 ?k7 ?k8 ?k9 ?kB ?_ ?c2 ?c3 ?c4 ?c5; (case kA => exact rfl); (case kF => exact rfl); (case kK => assumption); (case k1 => k_asm); (case k2 => k_asm); (case k3 => k_asm); (case k4 => k_asm); (case k5 => k_asm); (case k6 => k_is); (case k7 => k_is); (case k8 => ktr_room); (case k9 => first | exact BindsTo.of_eq rfl | exact binds_K (by k_in) rfl (by k_is) rfl rfl rfl); (case c5 => decide); (case kB => exact locs rfl); (case c2 => exact rfl); (case c3 => exact rfl); (case c4 => exact rfl); k_whole; intro g0 L0 h1 FG0 F1 N1 B1 X1 T1; (try dsimp only); (try k_fold))
  k_steps
  · rename List.map _ _ = Txt.split _ _ => hlk
    rename (List.map _ _)[_]? = some _ => hy
    rw [hlk, hsp] at hy
    cases (show Str.empty = _ by simpa using hy)
    k_steps
    rename List (Str × Tok) => l
    have hl2 : l.length = mids.length + 2 := by
      have := congrArg List.length hlk
      rw [hsp] at this
      simpa using this
    have key : ∀ (i : Nat), i = mids.length + 1 → (Str.empty :: (mids ++ [Str.empty])).getD i Str.empty = Str.empty := by
      intro i h; subst h; simp
    rw [hlk, hsp, key _ (by simp; omega)]
    k_steps
    refine Stop.mk ?_
    rename Fr g0 L0 _ _ => F2
    rename News g0 L0 _ _ => N2
    refine For_turns F2 ?_
    k_steps
    refine Stop.mk ?_
    refine turns_list (vs := strValues l) (k := 0) (fun i m nx => nx = _ ∧ (∃ te, m (Str.ofString "endpos") = some (.int got.length te)) ∧ m (Str.ofString "got") = some (.str got u) ∧
      ∃ p tp, m (Str.ofString "startpos") = some (.int p tp) ∧ seek got 0 (Str.empty :: (mids ++ [Str.empty])) = seek got p ((Str.empty :: (mids ++ [Str.empty])).drop i)) rfl F2 N2 (fun _ h => h) ⟨rfl, ⟨_, rfl⟩, rfl, 0, _, rfl, rfl⟩ ?_ ?_ ?_
    · rintro i m nx ⟨rfl, _⟩
      k_mem
    · rintro I hI i v m₁ nx h tk oI hv ⟨rfl, ⟨te, hme⟩, hmg, p, tp, hmp, hsk⟩ hoff F3 N3
      have F4 := know3 F3 hmg hme hmp
      clear F3
      obtain ⟨x, tx, rfl, hx⟩ := strValues_get hv
      rename ∀ a, a ∈ List.map _ _ → _ ≤ _ => hal
      have hxl : x.length ≤ 1000 := Nat.le_trans (hal x (List.mem_of_getElem? hx)) hw
      rw [hlk, hsp] at hx
      rw [drop_at hx] at hsk
      k_steps
      · rename find4 _ _ _ _ < 0 => hlt
        rename Fr h₀ L _ _ => kF
        rename News h₀ L _ _ => kN
        refine hret _ news _ _ kF (sub_news kN fun p hp => by simp [hp]) ⟨?_, rfl⟩
        rw [hsp, hsk, seek, if_pos hlt]
      · rename ¬ (find4 _ _ _ _ < 0) => hlt
        refine TurnEnd'.mk' (by assumption) (by assumption) (by k_mem) (fun q hq => List.mem_cons_of_mem _ hq) hoff ?_
        refine ⟨rfl, ⟨te, rfl⟩, rfl, _, _, rfl, ?_⟩
        rw [hsk, seek, if_neg hlt]
    · rintro m₁ nx h tk ⟨rfl, ⟨te, hme⟩, hmg, p, tp, hmp, hsk⟩ F3 N3
      have hlast : (Str.empty :: (mids ++ [Str.empty])).drop (strValues l).length = [] := by
        rw [strValues_length, hl2]; simp
      rw [hlast] at hsk
      k_steps
      rename Fr h₀ L _ _ => kF
      rename News h₀ L _ _ => kN
      refine hret _ news _ _ kF (sub_news kN fun p hp => by simp [hp]) ⟨?_, rfl⟩
      rw [hsp, hsk, seek]
  · rename List.map _ _ = Txt.split _ _ => hlk
    have := congrArg List.length hlk
    rw [hsp] at this
    simp only [List.length_map, List.length_cons, List.length_append, List.length_nil] at this
    omega
end Mine
end

section
open PySem PySem.W PyProof.Rows PySem.Builtin PySem.Builtin.Str
set_option Elab.async false
set_option maxRecDepth 100000
set_option maxHeartbeats 8000000
namespace Mine
theorem hdr_con (w : World) (news : Led) (l : Addr) (hl : (l, listOf ([] : List Value).toArray 0) ∈ news) :
   Con 15 w 199 [.ref l] news (fun r news' => ∃ x dx tk, r = Value.ref x ∧ (∀ p ∈ news, p.1 < dx) ∧ @LT.lt Nat _ dx x ∧ news' = (x, instObj 199 dx) :: (dx, dictOf [⟨PyData.keyHash w.params (Str.ofString "_headers"), .str (Str.ofString "_headers") tk, .ref l⟩] 1) :: news) := by
  w_top off; (have hFill : Mine.fillT PySem.Challenge.rw_re0169_01 Mine.head.heap_1_39 := (by k_fill; exact ⟨rfl, rfl⟩); clear hFill)
  (try unfold Mine.Con)
  unfold Mine.ConK
  intro mean mg mb dp un gd cn cs a ccd cl outer A₀ base h₀ L m s Q E B F X N T hk hdp hun hret
  k_dflt (refine' call_cls ?k1 ?k2 ?k3 ?k4 ?k5 ?k6 ?_; (case k1 => k_asm); (case k2 => k_asm); (case k3 => k_asm); (case k4 => k_is); (case k5 => k_is); (case k6 => k_is); k_whole)
  intro x1 d1 h1 F0 N0 l1 l2
  clear N F
  have hld : @LT.lt Nat _ l d1 := l1 _ hl
  have l2' : @LT.lt Nat _ d1 x1 := l2
  k_dflt (refine' code_def (binds := [(Str.ofString "self", .ref x1), (Str.ofString "headers", .ref l)]) ?k1 ?k2 ?k3 ?k4 ?k5 ?kA ?kF ?kK ?k6 ?k7 ?k8 ?k9 ?kB ?_ ?c2 ?c3 ?c4 ?c5; (case kA => exact rfl); (case kF => exact rfl); (case kK => assumption); (case k1 => k_asm); (case k2 => k_asm); (case k3 => k_asm); (case k4 => k_asm); (case k5 => k_asm); (case k6 => k_is); (case k7 => k_is); (case k8 => ktr_room); (case k9 => first | exact BindsTo.of_eq rfl | exact binds_K (by k_in) rfl (by k_is) rfl rfl rfl); (case c5 => decide); (case kB => exact locs rfl); (case c2 => exact rfl); (case c3 => exact rfl); (case c4 => exact rfl); k_whole; intro g0 L0 h1 FG0 F1 N1 B1 X1 T1; (try dsimp only); (try k_fold))
  have hne : ∀ p ∈ news, p.1 ≠ d1 := fun p hp => Nat.ne_of_lt (l1 p hp)
  k_steps
  refine Stop.mk ?_
  rename Fr g0 L0 _ _ => F2
  rename News g0 L0 _ _ => N2
  refine For_turns F2 ?_
  k_steps
  refine Stop.mk ?_
  refine turns_list (vs := []) (k := 0) (fun i m nx => nx = _) rfl F2 N2 (fun _ h => h) rfl ?_ ?_ ?_
  · rintro i m nx rfl
    exact .tail _ (.tail _ hl)
  · intro I hI i v m₁ nx h tk oI hv
    simp at hv
  · rintro m₁ nx h tk rfl F3 N3
    k_steps
    exact hret _ _ _ _ (by assumption) (by assumption) ⟨x1, d1, _, rfl, l1, l2', rfl⟩
end Mine
end

section
open PySem PySem.W PyProof.Rows PySem.Builtin PySem.Builtin.Str
set_option Elab.async false
set_option maxRecDepth 100000
set_option maxHeartbeats 8000000
namespace Mine
local macro_rules | `(tactic| walk_at "call ref") => `(tactic| (k_here; (with_reducible show wpAny _ _ (call (Value.ref 100) _ _) _ _ _); k_dflt (refine' Mine.ConK.usa (convN_con _ _ _ _ _ ?z1 ?z2) ?_; (case z1 => assumption); (case z2 => assumption); k_whole); intro r9 nw9 h9 tk9 F9 N9 hp9; obtain ⟨e9, f9⟩ := hp9; subst e9; subst f9; (try dsimp only); (try k_sweep)))
noncomputable def picked (v : Str) (es : List Ent) : List (Str × Tok) := (es.filter fun e => Txt.lower e.n == Txt.lower v).map fun e => (e.v, e.tv)
theorem picked_yes {v : Str} {es : List Ent} {i : Nat} {e : Ent} (hei : es[i]? = some e) (h : (Txt.lower e.n == Txt.lower v) = true) : picked v (es.take (i + 1)) = picked v (es.take i) ++ [(e.v, e.tv)] := by
  rw [take_snoc hei]; simp [picked, List.filter_append, h]
theorem picked_no {v : Str} {es : List Ent} {i : Nat} {e : Ent} (hei : es[i]? = some e) (h : (Txt.lower e.n == Txt.lower v) = false) : picked v (es.take (i + 1)) = picked v (es.take i) := by
  rw [take_snoc hei]; simp [picked, List.filter_append, h]
theorem Off1.mem {D : Addr} : ∀ {l : Led}, LCg.Off1 D l → ∀ p ∈ l, p.1 ≠ D
  | [], _, _, h => nomatch h
  | _ :: _, x, p, h => by
    rcases List.mem_cons.mp h with rfl | h
    · exact x.1
    · exact Off1.mem x.2 p h
theorem getall_con (w : World) (news : Led) (self dx hl : Addr) (es : List Ent) (k : Nat) (v : Str) (t tk : Tok) (hw : v.length ≤ 300) (hlo : sreNone codeN (Txt.lower v) = true) (hll : (Txt.lower v).length ≤ 1000)
    (h1 : (self, instObj 199 dx) ∈ news) (h2 : (dx, dictOf [⟨PyData.keyHash w.params (Str.ofString "_headers"), .str (Str.ofString "_headers") tk, .ref hl⟩] 1) ∈ news) (h3 : (hl, listOf (hvals es).toArray k) ∈ news)
    (he : EntsIn news es) (hn : ∀ e ∈ es, e.n.length ≤ 300) (hsz : es.length ≤ 1000) :
   Con 10 w 138 [.ref self, .str v t] news (fun r news' => ∃ D, r = .ref D ∧ news' = (D, LCg.lst (strValues (picked v es))) :: news ∧ ∀ p ∈ news, p.1 ≠ D) := by
  w_top off; (have hFill : Mine.fillT PySem.Challenge.rw_re0169_01 Mine.head.heap_1_39 := (by k_fill; exact ⟨rfl, rfl⟩); clear hFill)
  (try unfold Mine.Con)
  unfold Mine.ConK
  intro mean mg mb dp un gd cn cs a ccd cl outer A₀ base h₀ L m s Q E B F X N T hk hdp hun hret
  refine wpAny_call ?_
  k_dflt (refine' code_defC (binds := [(Str.ofString "self", .ref self), (Str.ofString "name", .str v t)]) ?k1 ?k2 ?k3 ?k4 ?k5 ?kA ?kF ?kK ?k6 ?k7 ?k8 ?k9 ?kB ?kD ?_ ?c2 ?c3 ?c4; (case kA => exact rfl); (case kF => exact rfl); (case kK => assumption); (case k1 => k_asm); (case k2 => k_asm); (case k3 => k_asm); (case k4 => k_asm); (case k5 => k_asm); (case k6 => k_is); (case k7 => k_is); (case k8 => ktr_room); (case k9 => first | exact BindsTo.of_eq rfl | exact binds_K (by k_in) rfl (by k_is) rfl rfl rfl); (case kB => exact rfl); (case kD => decide +kernel); (case c2 => exact rfl); (case c3 => exact rfl); (case c4 => exact rfl); k_whole; intro g0 L0 h1 tk1 cells1 FG0 F1 N1 Y1 B1 X1 T1 l1; k_cells Y1; (try simp only [List.cons_append, List.nil_append] at N1); (try dsimp only); (try k_fold))
  have hne : ∀ p ∈ news, p.1 ≠ L0 + 1 := fun p hp => Nat.ne_of_lt (Nat.lt_succ_of_lt (l1 p hp))
  k_steps
  refine Stop.mk ?_
  refine LCt.CompSrcT.ledger (by rfl) (by assumption) (by assumption) (by k_mem) (by simp only [List.size_toArray, hvals_length, sizeLine]; omega) ?_
  intro g2
  refine restT_inv (vs := hvals es) (fun i ys => ys = strValues (picked v (es.take i))) rfl (.inr ⟨_, by k_mem, rfl, _, rfl⟩) ?_ ?_
  · rintro i vv ys I oI C oC D m₂ h tk E' hv rfl hC hx F N off ne
    obtain ⟨e, hei, rfl⟩ := hvals_get hv
    have hmem := List.mem_of_getElem? hei
    have het := he e hmem
    have hen := hn e hmem
    k_steps
    · refine LCg.CompEnd.intro (by assumption) (by assumption) _ (fun p hp => hp) off (.inr ⟨_, by k_mem, rfl, _, rfl⟩) ⟨rfl, ?_⟩
      rw [picked_yes hei (by assumption), strValues_append]
      rfl
    · refine LCg.CompEnd.intro (by assumption) (by assumption) _ (fun p hp => hp) off (.inr ⟨_, by k_mem, rfl, _, rfl⟩) ⟨rfl, ?_⟩
      rw [picked_no hei (by assumption)]
  · rintro ys rfl
    intro D h tk F N off
    k_steps
    rename Fr h₀ L _ _ => F9
    rename News h₀ L _ _ => N9
    rw [hvals_length, List.take_length] at N9
    refine hret _ _ _ _ F9 (sub_1_2 N9) ⟨_, rfl, rfl, ?fr⟩
    exact fun p hp => (Off1.mem off) p (by first | exact .tail _ hp | exact hp)
end Mine
end

section
open PySem PySem.W PyProof.Rows PySem.Builtin PySem.Builtin.Str
set_option Elab.async false
set_option maxRecDepth 100000
set_option maxHeartbeats 8000000
namespace Mine
local macro_rules | `(tactic| walk_at "spare") => `(tactic| fail)
theorem slice_copy {prog : Program} {w : World} {A : Around} {E : Value → Shared → Prop} {s : Shared} {h₀ : Heap} {L l : Addr} {m : Str → Option Value} {news : Led} {value slice : PySem.Expr} {vs : List Value} {k : Nat} {Q : Value → Shared → Prop}
    (F : Fr h₀ L s.heap m) (N : News h₀ L s.heap news) (hm : (l, listOf vs.toArray k) ∈ news) (hz : vs.length ≤ 1000)
    (h : ∀ D h', Fr h₀ L h' m → News h₀ L h' ((D, listOf vs.toArray 0) :: news) → (∀ p ∈ news, p.1 < D) → Q (.ref D) { s with heap := h' })
    (hs : subscripted slice false (.ref l) (.ref s.heap.objs.size) = operate [.ref s.heap.objs.size, .ref l] (getItem (.ref l) (.ref s.heap.objs.size))) (ht : ∀ r, letTemporaryGo value (.ref l) r = pure ()) :
    wpAny (model prog w) A (subscriptTail value slice (.ref l) (.ref s.heap.objs.size)) Q E { s with heap := s.heap.push { cls := .type "slice", data := .fields #[.none, .none, .none] } } := by
  refine kmk_slice F N ⟨_, (N _ hm).1, rfl, k, rfl⟩ IsPart.none IsPart.none (fun D h' F' N' l1 => h D h' F' ?_ l1) hs ht (by simp only [List.size_toArray, sizeLine]; omega)
  have e : slicePick vs.toArray none none none = vs.toArray := by
    rw [kms_pick_eq]
    have : kms_pick vs none none = vs := by simp [kms_pick, kms_lo, kms_hi]
    simpa using this
  rw [e] at N'
  exact N'
local macro_rules | `(tactic| walk_at "subscriptTail Name Slice ref ref") => `(tactic| (k_here; k_dflt (refine' slice_copy ?F ?N ?l ?z ?_ ?s ?t; (case F => k_asm); (case N => k_asm); (case l => k_mem); (case z => assumption); (case s => with_unfolding_all rfl); (case t => kmk_pure)); intro D9 h9 F9 N9 l9; (try k_lt l9); (try k_sweep)))
theorem items_con (w : World) (news : Led) (self dx hl : Addr) (vs : List Value) (k : Nat) (tk : Tok) (hw : vs.length ≤ 1000)
    (h1 : (self, instObj 199 dx) ∈ news) (h2 : (dx, dictOf [⟨PyData.keyHash w.params (Str.ofString "_headers"), .str (Str.ofString "_headers") tk, .ref hl⟩] 1) ∈ news) (h3 : (hl, listOf vs.toArray k) ∈ news) :
   Con 10 w 163 [.ref self] news (fun r news' => ∃ D, r = Value.ref D ∧ news' = (D, listOf vs.toArray 0) :: news) := by
  w_top off; (have hFill : Mine.fillT PySem.Challenge.rw_re0169_01 Mine.head.heap_1_39 := (by k_fill; exact ⟨rfl, rfl⟩); clear hFill)
  (try unfold Mine.Con)
  unfold Mine.ConK
  intro mean mg mb dp un gd cn cs a ccd cl outer A₀ base h₀ L m s Q E B F X N T hk hdp hun hret
  refine wpAny_call ?_
  k_dflt (refine' code_def (binds := [(Str.ofString "self", .ref self)]) ?k1 ?k2 ?k3 ?k4 ?k5 ?kA ?kF ?kK ?k6 ?k7 ?k8 ?k9 ?kB ?_ ?c2 ?c3 ?c4 ?c5; (case kA => exact rfl); (case kF => exact rfl); (case kK => assumption); (case k1 => k_asm); (case k2 => k_asm); (case k3 => k_asm); (case k4 => k_asm); (case k5 => k_asm); (case k6 => k_is); (case k7 => k_is); (case k8 => ktr_room); (case k9 => first | exact BindsTo.of_eq rfl | exact binds_K (by k_in) rfl (by k_is) rfl rfl rfl); (case c5 => decide); (case kB => exact locs rfl); (case c2 => exact rfl); (case c3 => exact rfl); (case c4 => exact rfl); k_whole; intro g0 L0 h1 FG0 F1 N1 B1 X1 T1; (try dsimp only); (try k_fold))
  k_steps
  refine hret _ _ _ _ (by assumption) (by assumption) ⟨_, rfl, rfl⟩
end Mine
end

section
open PySem PySem.W PyProof.Rows PySem.Builtin PySem.Builtin.Str
set_option Elab.async false
set_option maxRecDepth 100000
set_option maxHeartbeats 8000000
namespace Mine
theorem values_con (w : World) (news : Led) (self dx hl : Addr) (es : List Ent) (k : Nat) (tk : Tok) (hsz : es.length ≤ 1000)
    (h1 : (self, instObj 199 dx) ∈ news) (h2 : (dx, dictOf [⟨PyData.keyHash w.params (Str.ofString "_headers"), .str (Str.ofString "_headers") tk, .ref hl⟩] 1) ∈ news) (h3 : (hl, listOf (hvals es).toArray k) ∈ news) (he : EntsIn news es) :
   Con 10 w 156 [.ref self] news (fun r news' => ∃ D, r = .ref D ∧ news' = (D, LCg.lst (strValues (es.map fun e => (e.v, e.tv)))) :: news) := by
  w_top off; (have hFill : Mine.fillT PySem.Challenge.rw_re0169_01 Mine.head.heap_1_39 := (by k_fill; exact ⟨rfl, rfl⟩); clear hFill)
  (try unfold Mine.Con)
  unfold Mine.ConK
  intro mean mg mb dp un gd cn cs a ccd cl outer A₀ base h₀ L m s Q E B F X N T hk hdp hun hret
  refine wpAny_call ?_
  k_dflt (refine' code_def (binds := [(Str.ofString "self", .ref self)]) ?k1 ?k2 ?k3 ?k4 ?k5 ?kA ?kF ?kK ?k6 ?k7 ?k8 ?k9 ?kB ?_ ?c2 ?c3 ?c4 ?c5; (case kA => exact rfl); (case kF => exact rfl); (case kK => assumption); (case k1 => k_asm); (case k2 => k_asm); (case k3 => k_asm); (case k4 => k_asm); (case k5 => k_asm); (case k6 => k_is); (case k7 => k_is); (case k8 => ktr_room); (case k9 => first | exact BindsTo.of_eq rfl | exact binds_K (by k_in) rfl (by k_is) rfl rfl rfl); (case c5 => decide); (case kB => exact locs rfl); (case c2 => exact rfl); (case c3 => exact rfl); (case c4 => exact rfl); k_whole; intro g0 L0 h1 FG0 F1 N1 B1 X1 T1; (try dsimp only); (try k_fold))
  k_steps
  refine Stop.mk ?_
  refine LCp.SrcLP.ledger (by rfl) (by assumption) (by assumption) (by k_mem) (by simp only [List.size_toArray, hvals_length, sizeLine]; omega) ?_
  intro g2
  refine restP_inv (vs := hvals es) (fun i ys => ys = strValues ((es.take i).map fun e => (e.v, e.tv))) rfl ?_ ?_ ?_
  · intro i vv hv
    obtain ⟨e, hei, rfl⟩ := hvals_get hv
    exact ⟨_, _, _, _, rfl, he e (List.mem_of_getElem? hei)⟩
  · rintro i t v1 v2 nt ys I oI C oC D m₂ h tk E' hv hvm rfl hC hx hx2 F N off ne
    obtain ⟨e, hei, he'⟩ := hvals_get hv
    cases he'
    have q1 := (N _ (.tail _ (.tail _ (.tail _ hvm)))).1
    have q2 := (N _ (.tail _ (.tail _ (.tail _ (he e (List.mem_of_getElem? hei)))))).1
    cases Option.some.inj (q1.symm.trans q2)
    k_steps
    refine LCg.CompEnd.intro (by assumption) (by assumption) _ (fun p hp => hp) off (.inr ⟨_, by k_mem, rfl, _, rfl⟩) ⟨rfl, ?_⟩
    rw [take_snoc hei, List.map_append, strValues_append]
    rfl
  · rintro ys rfl
    intro D h tk F N off
    k_steps
    rename Fr h₀ L _ _ => F9
    rename News h₀ L _ _ => N9
    rw [hvals_length, List.take_length] at N9
    exact hret _ _ _ _ F9 N9 ⟨_, rfl, rfl⟩
end Mine
end

section
open PySem PySem.W PyProof.Rows PySem.Builtin PySem.Builtin.Str
set_option Elab.async false
set_option maxRecDepth 100000
set_option maxHeartbeats 8000000
namespace Mine
noncomputable def homeD (c : List Str) : List (PyData × PyData) := c.map fun k => (PyData.str k, PyData.bool true)
theorem homeD_isSome (k : Str) : ∀ c : List Str, (PySem.Spec.lookup (PyData.str k) (homeD c)).isSome = decide (k ∈ c)
  | [] => rfl
  | i :: c => by
    show (if PySem.Spec.same (PyData.str i) (PyData.str k) = true then some (PyData.bool true) else PySem.Spec.lookup (PyData.str k) (homeD c)).isSome = _
    rw [PyProof.V.same_str]
    by_cases h : i = k
    · simp [h]
    · rw [if_neg (by simp [h]), homeD_isSome k c]
      have h' : ¬ k = i := fun e => h e.symm
      simp [h']
/-- the ledger bears a dict of texts at True -/
noncomputable def HomeIn (w : World) (news : Led) (hm : Addr) (c : List Str) : Prop := ∃ o kvs, (hm, o) ∈ news ∧ (hm == sysModules) = false ∧ o.IsDictOf (strKind PySem.Challenge.pw_re0169_01 w) kvs ∧ PyProof.V.FlatPairs PyData.str kvs (homeD c)
theorem home_in {w : World} {A : Around} {E : Value → Shared → Prop} {s : Shared} {h₀ : Heap} {L hm : Addr} {news : Led} {c : List Str} {k : Str} {tk : Tok} {Q : Value → Shared → Prop} {all : Led} (N : News h₀ L s.heap all) (H : HomeIn w news hm c) (hs : ∀ p ∈ news, p ∈ all) (h : Q (.bool (decide (k ∈ c))) { s with toks := s.toks + 1 }) :
    wpAny (model PySem.Challenge.pw_re0169_01 w) A (compareOp .In (.str k tk) (.ref hm)) Q E s := by
  obtain ⟨o, kvs, hm', lo, hd, hf⟩ := H
  exact in_strTab ⟨lo, kvs, Heap.dictOf_iff.mpr ⟨o, (N _ (hs _ hm')).1, hd⟩, hf⟩ (by rw [homeD_isSome]; exact h)
local macro_rules | `(tactic| walk_at "compareOp In str ref") => `(tactic| (k_here; (with_reducible show wpAny _ _ (compareOp CmpOp.In (Value.str _ _) (Value.ref _)) _ _ _); k_dflt (refine' home_in ?k1 ?k2 ?k3 ?_; (case k1 => k_asm); (case k2 => assumption); (case k3 => (intro p9 hp9; first | exact hp9 | exact List.mem_cons_of_mem _ hp9 | exact List.mem_cons_of_mem _ (List.mem_cons_of_mem _ hp9))); k_whole)))
noncomputable def lostAt (s w : Str) (k : Int) : Str := s ++ Txt.slice w none (some k) ++ Txt.slice w (some (k + 1)) none
noncomputable def rowLeads (s w : Str) (n : Int) (c : List Str) (r : Row) : Bool :=
  (r.b == s) && (bif r.d == Str.ofString "send" then decide ((w.length : Int) < n) && decide (r.g ++ w ++ r.sg ∈ c)
    else bif r.d == Str.ofString "take" then (Txt.slice w none (some 1) == r.sg) && decide (r.g ++ Txt.slice w (some 1) none ∈ c)
    else decide (r.g ++ w ∈ c))
theorem any_snoc {α : Type} {l : List α} {i : Nat} {x : α} {f : α → Bool} (h : l[i]? = some x) (h0 : (l.take i).any f = false) (h1 : f x = false) : (l.take (i + 1)).any f = false := by
  rw [take_snoc h, List.any_append, h0]; simp [h1]
noncomputable def leadsTo (rs : List Row) (s w : Str) (n : Int) (c : List Str) : Bool := (List.range w.length).any (fun k => decide (lostAt s w k ∈ c)) || rs.any (rowLeads s w n c)
theorem leads_row {rs : List Row} {s w : Str} {n : Int} {c : List Str} {r : Row} (hm : r ∈ rs) (h : rowLeads s w n c r = true) : leadsTo rs s w n c = true := by
  unfold leadsTo
  rw [List.any_eq_true.mpr ⟨r, hm, h⟩, Bool.or_true]
theorem leads_con (w : World) (news : Led) (dr hm : Addr) (s1 w1 : Str) (t u : Tok) (n : Int) (tn : Tok) (c : List Str) (rs : List Row) (k : Nat) (H : HomeIn w news hm c) (hd : (dr, listOf (rvals rs).toArray k) ∈ news) (hrs : RowsIn news rs) (hlen : ∀ r ∈ rs, r.b.length ≤ 10 ∧ r.d.length ≤ 10 ∧ r.sg.length ≤ 10 ∧ r.g.length ≤ 10) (hw : w1.length ≤ 100) (hs : s1.length ≤ 10) :
   Con 5 w 257 [.ref dr, .str s1 t, .str w1 u, .ref hm, .int n tn] news (fun r news' => r = .bool (leadsTo rs s1 w1 n c) ∧ news' = news) := by
  w_top off; (have hFill : Mine.fillT PySem.Challenge.rw_re0169_01 Mine.head.heap_1_39 := (by k_fill; exact ⟨rfl, rfl⟩); clear hFill)
  (try unfold Mine.Con)
  unfold Mine.ConK
  intro mean mg mb dp un gd cn cs a ccd cl outer A₀ base h₀ L m s Q E B F X N T hk hdp hun hret
  refine wpAny_call ?_
  k_dflt (refine' code_def (binds := [(Str.ofString "drawn", .ref dr), (Str.ofString "state", .str s1 t), (Str.ofString "word", .str w1 u), (Str.ofString "home", .ref hm), (Str.ofString "longest", .int n tn)]) ?k1 ?k2 ?k3 ?k4 ?k5 ?kA ?kF ?kK ?k6 ?k7 ?k8 ?k9 ?kB ?_ ?c2 ?c3 ?c4 ?c5; (case kA => exact rfl); (case kF => exact rfl); (case kK => assumption); (case k1 => k_asm); (case k2 => k_asm); (case k3 => k_asm); (case k4 => k_asm); (case k5 => k_asm); (case k6 => k_is); (case k7 => k_is); (case k8 => ktr_room); (case k9 => first | exact BindsTo.of_eq rfl | exact binds_K (by k_in) rfl (by k_is) rfl rfl rfl); (case c5 => decide); (case kB => exact locs rfl); (case c2 => exact rfl); (case c3 => exact rfl); (case c4 => exact rfl); k_whole; intro g0 L0 h1 FG0 F1 N1 B1 X1 T1; (try dsimp only); (try k_fold))
  k_steps
  refine Stop.mk ?_
  rename Fr g0 L0 _ _ => F2
  refine For_turns F2 ?_
  k_steps
  refine Stop.mk ?_
  rename Fr g0 L0 _ _ => F2
  rename News g0 L0 _ _ => N2
  rename IsRange _ _ _ _ _ _ _ _ => hrg
  refine turns_range (n := w1.length) (nx₀ := news) (fun i m nx => nx = news ∧ m (Str.ofString "drawn") = some (.ref dr) ∧ m (Str.ofString "state") = some (.str s1 t) ∧ m (Str.ofString "word") = some (.str w1 u) ∧ m (Str.ofString "home") = some (.ref hm) ∧ m (Str.ofString "longest") = some (.int n tn) ∧ (List.range i).any (fun k => decide (lostAt s1 w1 k ∈ c)) = false) rfl hrg (by first | decide | exact small_one (by l_bnd) (by l_bnd) (by l_bnd) (by l_bnd)) (by first | exact rangeSize_nat _ _ | rfl) F2 N2 (fun _ h => h) ⟨rfl, rfl, rfl, rfl, rfl, rfl, rfl⟩ ?_ ?_
  · rintro I hI i ti m₁ nx h tk oI hin ⟨rfl, q1, q2, q3, q4, q5, hno⟩ hoff F3 N3
    have F4 := know5 F3 q1 q2 q3 q4 q5
    clear F3
    k_steps
    · rename _ ∈ c => hyes
      refine hret _ _ _ _ (by assumption) (sub_news (by assumption) fun p hp => .tail _ hp) ⟨?_, rfl⟩
      refine congrArg Value.bool (Eq.symm ?_)
      unfold leadsTo
      rw [List.any_eq_true.mpr ⟨i, List.mem_range.mpr hin, ?_⟩, Bool.true_or]
      rw [Int.zero_add] at hyes
      exact decide_eq_true hyes
    · rename ¬ (_ ∈ c) => hnn
      show TurnEnd' _ _ _ _ _ _ _
      refine TurnEnd'.mk' (by assumption) (by assumption) (by k_mem) (fun q hq => .tail _ hq) hoff ⟨rfl, rfl, rfl, rfl, rfl, rfl, ?_⟩
      rw [Int.zero_add] at hnn
      rw [List.range_succ, List.any_append, hno]
      simp only [List.any_cons, List.any_nil, Bool.or_false, Bool.false_or]
      exact decide_eq_false hnn
  · rintro m₁ nx h tk ⟨rfl, q1, q2, q3, q4, q5, hno⟩ F3 N3
    have F4 := know5 F3 q1 q2 q3 q4 q5
    clear F3
    k_steps
    refine Stop.mk ?_
    refine For_turns F4 ?_
    k_steps
    refine Stop.mk ?_
    refine turns_list (vs := rvals rs) (k := k) (nx₀ := nx) (fun i m nx' => nx' = nx ∧ m (Str.ofString "state") = some (.str s1 t) ∧ m (Str.ofString "word") = some (.str w1 u) ∧ m (Str.ofString "home") = some (.ref hm) ∧ m (Str.ofString "longest") = some (.int n tn) ∧ (rs.take i).any (rowLeads s1 w1 n c) = false) rfl (by assumption) (by assumption) (fun _ h => h) ⟨rfl, rfl, rfl, rfl, rfl, rfl⟩ ?_ ?_ ?_
    · rintro i m nx ⟨rfl, _⟩
      k_mem
    · rintro I hI i vv m₂ nx2 h5 tk5 oI hvv ⟨rfl, p1, p2, p3, p4, hnr⟩ hoff F5 N5
      have F6 := know4 F5 p1 p2 p3 p4
      clear F5
      obtain ⟨r, hri, rfl⟩ := rvals_get hvv
      have hmem := List.mem_of_getElem? hri
      have htup := hrs r hmem
      obtain ⟨l1, l2, l3, l4⟩ := hlen r hmem
      k_steps
      all_goals first
        | (refine hret _ _ _ _ (by assumption) (sub_news (by assumption) fun p hp => .tail _ hp) ⟨congrArg Value.bool (Eq.symm (leads_row hmem ?_)), rfl⟩; simp [rowLeads, *]; done)
        | (show TurnEnd' _ _ _ _ _ _ _; refine TurnEnd'.mk' (by assumption) (by assumption) (by k_mem) (fun q hq => .tail _ hq) hoff ⟨rfl, rfl, rfl, rfl, rfl, any_snoc hri hnr ?_⟩; simp [rowLeads, *]; done)
        | fail
    · rintro m₂ nx2 h5 tk5 ⟨rfl, p1, p2, p3, p4, hnr⟩ F5 N5
      rw [rvals_length, List.take_length] at hnr
      k_steps
      exact hret _ _ _ _ (by assumption) (by assumption) ⟨by rw [leadsTo, hno, hnr]; rfl, rfl⟩
end Mine
end

section
open PySem PySem.W PyProof.Rows PySem.Builtin PySem.Builtin.Str
set_option Elab.async false
set_option maxRecDepth 100000
set_option maxHeartbeats 8000000
namespace Mine
local macro_rules | `(tactic| walk_at "spare") => `(tactic| fail)
noncomputable abbrev wantOf (x : Str) : Str := Str.ofString "..." ++ Txt.replace x (Str.ofString "  ") (Str.ofString " ... ") ++ Str.ofString "..."
/-- what the walk asks of a word that is sought -/
structure WantOK (x : Str) : Prop where
  xl : x.length ≤ 100
  rl : (Txt.replace x (Str.ofString "  ") (Str.ofString " ... ")).length ≤ 500
  wl : (wantOf x).length ≤ 1000
  inn : (occurrences (wantOf x) (Str.ofString "...") 0 (wantOf x).length 1).isEmpty = false
  sp : ∃ mids, Txt.split (wantOf x) (Str.ofString "...") = Str.empty :: (mids ++ [Str.empty])
noncomputable def finds (x q : Str) : Bool := seek q 0 (Txt.split (wantOf x) (Str.ofString "..."))
local macro_rules | `(tactic| walk_at "call ref") => `(tactic| (k_here; (with_reducible show wpAny _ _ (call (Value.ref 45) _ _) _ _ _); k_dflt (refine' Mine.ConK.usa (ell_con _ _ _ _ _ _ _ ?z1 ?z2 ?z3 ?z4) ?_; (case z1 => assumption); (case z2 => assumption); (case z3 => assumption); (case z4 => assumption); k_whole); intro r9 nw9 h9 tk9 F9 N9 hp9; obtain ⟨e9, f9⟩ := hp9; subst e9; subst f9; (try dsimp only); (try k_sweep)))
theorem held_con (w : World) (news : Led) (kn : Addr) (l : List (Str × Tok)) (k : Nat) (v : Str) (t : Tok) (hv : v.length ≤ 1000) (hl : (kn, listOf (strValues l).toArray k) ∈ news) (hx : ∀ p ∈ l, WantOK p.1) :
   Con 10 w 238 [.ref kn, .str v t] news (fun r news' => r = .bool (l.any fun p => finds p.1 v) ∧ news' = news) := by
  w_top off; (have hFill : Mine.fillT PySem.Challenge.rw_re0169_01 Mine.head.heap_1_39 := (by k_fill; exact ⟨rfl, rfl⟩); clear hFill)
  (try unfold Mine.Con)
  unfold Mine.ConK
  intro mean mg mb dp un gd cn cs a ccd cl outer A₀ base h₀ L m s Q E B F X N T hk hdp hun hret
  refine wpAny_call ?_
  k_dflt (refine' code_def (binds := [(Str.ofString "known", .ref kn), (Str.ofString "queue", .str v t)]) ?k1 ?k2 ?k3 ?k4 ?k5 ?kA ?kF ?kK ?k6 ?k7 ?k8 ?k9 ?kB ?_ ?c2 ?c3 ?c4 ?c5; (case kA => exact rfl); (case kF => exact rfl); (case kK => assumption); (case k1 => k_asm); (case k2 => k_asm); (case k3 => k_asm); (case k4 => k_asm); (case k5 => k_asm); (case k6 => k_is); (case k7 => k_is); (case k8 => ktr_room); (case k9 => first | exact BindsTo.of_eq rfl | exact binds_K (by k_in) rfl (by k_is) rfl rfl rfl); (case c5 => decide); (case kB => exact locs rfl); (case c2 => exact rfl); (case c3 => exact rfl); (case c4 => exact rfl); k_whole; intro g0 L0 h1 FG0 F1 N1 B1 X1 T1; (try dsimp only); (try k_fold))
  k_steps
  refine Stop.mk ?_
  rename Fr g0 L0 _ _ => F2
  rename News g0 L0 _ _ => N2
  refine For_turns F2 ?_
  k_steps
  refine Stop.mk ?_
  refine turns_list (vs := strValues l) (k := k) (nx₀ := news) (fun i m nx => nx = news ∧ m (Str.ofString "queue") = some (.str v t) ∧ (l.take i).any (fun p => finds p.1 v) = false) rfl F2 N2 (fun _ h => h) ⟨rfl, rfl, rfl⟩ ?_ ?_ ?_
  · rintro i m nx ⟨rfl, _⟩
    k_mem
  · rintro I hI i vv m₁ nx h tk oI hvv ⟨rfl, hq, hno⟩ hoff F3 N3
    have F4 := know F3 hq
    clear F3
    obtain ⟨p, hpi, rfl⟩ : ∃ p, l[i]? = some p ∧ vv = .str p.1 p.2 := by
      unfold strValues at hvv
      rw [List.getElem?_map] at hvv
      cases e : l[i]? with
      | none => rw [e] at hvv; cases hvv
      | some p => rw [e] at hvv; cases hvv; exact ⟨p, rfl, rfl⟩
    have hmem := List.mem_of_getElem? hpi
    obtain ⟨x, tx⟩ := p
    obtain ⟨hxl, hrl, hwl, hin, mids, hsp⟩ := hx _ hmem
    dsimp only at hxl hrl hwl hin hsp
    k_steps
    · rename (seek _ _ _ == true) = true => hyes
      refine hret _ _ _ _ (by assumption) (sub_news (by assumption) fun p hp => .tail _ hp) ⟨?_, rfl⟩
      refine congrArg Value.bool (Eq.symm ?_)
      rw [List.any_eq_true]
      exact ⟨_, hmem, by simpa [finds] using hyes⟩
    · rename (seek _ _ _ == true) = false => hnn
      refine TurnEnd'.mk' (by assumption) (by assumption) (by k_mem) (fun q hq => List.mem_cons_of_mem _ hq) hoff ⟨rfl, rfl, ?_⟩
      rw [take_snoc hpi, List.any_append, hno]
      simp only [List.any_cons, List.any_nil, Bool.or_false, Bool.false_or]
      have hnn' : seek v 0 (Txt.split (wantOf x) (Str.ofString "...")) = false := by simpa using hnn
      exact hnn'
  · rintro m₁ nx h tk ⟨rfl, hq, hno⟩ F3 N3
    rw [strValues_length, List.take_length] at hno
    k_steps
    exact hret _ _ _ _ (by assumption) (by assumption) ⟨by rw [hno], rfl⟩
end Mine
end

section
open PySem PySem.W PyProof.Rows PySem.Builtin PySem.Builtin.Str PySem.Spec PyProof.V
set_option Elab.async false
set_option maxRecDepth 100000
set_option maxHeartbeats 8000000
namespace Mine
/-- the keys behind a store -/
noncomputable def addKey (c : List Str) (k : Str) : List Str := if k ∈ c then c else c ++ [k]
theorem homeD_any (k : Str) : ∀ c : List Str, ((homeD c).any fun p => same p.1 (PyData.str k)) = decide (k ∈ c)
  | [] => rfl
  | i :: c => by
    show (same (PyData.str i) (PyData.str k) || (homeD c).any fun p => same p.1 (PyData.str k)) = _
    rw [PyProof.V.same_str, homeD_any k c]
    by_cases h : i = k
    · simp [h]
    · have h' : ¬ k = i := fun e => h e.symm
      simp [h, h']
theorem homeD_map (k : Str) : ∀ c : List Str, ((homeD c).map fun p => if same p.1 (PyData.str k) then (p.1, PyData.bool true) else p) = homeD c
  | [] => rfl
  | i :: c => by
    show (if same (PyData.str i) (PyData.str k) = true then (PyData.str i, PyData.bool true) else (PyData.str i, PyData.bool true)) :: (homeD c).map _ = (PyData.str i, PyData.bool true) :: homeD c
    rw [homeD_map k c, ite_self]
theorem homeD_put (c : List Str) (k : Str) : putD (PyData.str k) (PyData.bool true) (homeD c) = homeD (addKey c k) := by
  unfold putD addKey
  rw [homeD_any]
  by_cases h : k ∈ c
  · rw [if_pos (by simpa using h), if_pos h, homeD_map]
  · rw [if_neg (by simpa using h), if_neg h]
    simp [homeD]
theorem homeD_length (c : List Str) : (homeD c).length = c.length := by simp [homeD]
noncomputable abbrev DictIs (w : World) (hm : Addr) (o : Obj) (c : List Str) : Prop := (hm == sysModules) = false ∧ ∃ kvs, o.IsDictOf (strKind PySem.Challenge.pw_re0169_01 w) kvs ∧ PyProof.V.FlatPairs PyData.str kvs (homeD c)
theorem DictIs.home {w : World} {hm : Addr} {o : Obj} {c : List Str} {news : Led} (D : DictIs w hm o c) (h : (hm, o) ∈ news) : HomeIn w news hm c :=
  let ⟨a, kvs, b, d⟩ := D; ⟨o, kvs, h, a, b, d⟩
theorem home_notin {w : World} {A : Around} {E : Value → Shared → Prop} {s : Shared} {h₀ : Heap} {L hm : Addr} {c : List Str} {o : Obj} {k : Str} {tk : Tok} {Q : Value → Shared → Prop} {all : Led} (N : News h₀ L s.heap all) (D : DictIs w hm o c) (hs : (hm, o) ∈ all) (h : Q (.bool (!decide (k ∈ c))) { s with toks := s.toks + 1 }) :
    wpAny (model PySem.Challenge.pw_re0169_01 w) A (compareOp .NotIn (.str k tk) (.ref hm)) Q E s := by
  obtain ⟨lo, kvs, hd, hf⟩ := D
  exact notin_strTab ⟨lo, kvs, Heap.dictOf_iff.mpr ⟨o, (N _ hs).1, hd⟩, hf⟩ (by rw [homeD_isSome]; exact h)
theorem home_set {w : World} {A : Around} {E : Value → Shared → Prop} {s : Shared} {h₀ : Heap} {L hm : Addr} {m : Str → Option Value} {c : List Str} {o : Obj} {k : Str} {tk : Tok} {Q : Unit → Shared → Prop} {all : Led} (want : Led)
    (F : Fr h₀ L s.heap m) (N : News h₀ L s.heap all) (D : DictIs w hm o c) (hs : (hm, o) ∈ all) (hw : ∀ p ∈ want, p ∈ all ∧ p.1 ≠ hm) (hsz : c.length ≤ 1000)
    (h : ∀ h' o', Fr h₀ L h' m → News h₀ L h' ((hm, o') :: want) → DictIs w hm o' (addKey c k) → Q () { s with heap := h', toks := s.toks + 1 }) :
    wpAny (model PySem.Challenge.pw_re0169_01 w) A (setItem (.ref hm) (.str k tk) (.bool true)) Q E s := by
  obtain ⟨lo, kvs, hd, hf⟩ := D
  refine setItem_K (news := (hm, o) :: want) (g := fun o' => (hm, o') :: want) PyProof.V.same_str (strKind_is _ _ k tk) (dv := PyData.bool true) (.bool true) F (fun p hp => ?_) (.head fun p hp => (hw p hp).2) hd hf (fun h' o' F' N' hd' hf' => h h' o' F' N' ⟨lo, _, hd', ?_⟩) ?_
  · rcases List.mem_cons.mp hp with rfl | hp
    · exact N _ hs
    · exact N _ (hw p hp).1
  · rw [homeD_put] at hf'
    exact hf'
  · rw [homeD_length, sizeLine_eq]; omega
theorem RowsIn.mono {news news' : Led} {rs : List Row} (h : RowsIn news rs) (hs : ∀ p ∈ news, p ∈ news') : RowsIn news' rs := fun r hr => hs _ (h r hr)
local macro_rules | `(tactic| walk_at "compareOp NotIn str ref") => `(tactic| (k_here; (with_reducible show wpAny _ _ (compareOp CmpOp.NotIn (Value.str _ _) (Value.ref _)) _ _ _); k_dflt (refine' home_notin ?k1 ?k2 ?k3 ?_; (case k1 => k_asm); (case k2 => assumption); (case k3 => k_mem); k_whole)))
local macro_rules | `(tactic| walk_at "setItem ref str") => `(tactic| (refine Mine.stopAt ?_))
local macro_rules | `(tactic| walk_at "call ref") => `(tactic| (k_here; (with_reducible show wpAny _ _ (call (Value.ref 257) _ _) _ _ _); k_dflt (refine' Mine.ConK.usa (leads_con _ _ _ _ _ _ _ _ _ _ _ _ _ ?z1 ?z2 ?z3 ?z4 ?z5 ?z6) ?_; (case z1 => exact DictIs.home (by assumption) (by k_mem)); (case z2 => k_mem); (case z3 => (refine RowsIn.mono (by assumption) ?_; intro p9 hp9; k_mem)); (case z4 => assumption); (case z5 => omega); (case z6 => omega); k_whole); intro r9 nw9 h9 tk9 F9 N9 hp9; obtain ⟨e9, f9⟩ := hp9; subst e9; subst f9; (try dsimp only); (try k_sweep)))
/-- the keys the growth may yet add -/
noncomputable def univ (ws : List Str) : List Str := ws.flatMap fun w => [Str.ofString "b" ++ w, Str.ofString "a" ++ w]
noncomputable def left (ws c : List Str) : Nat := ((univ ws).filter fun k => decide (k ∉ c)).length
structure HomeInv (rs : List Row) (ws : List Str) (n : Int) (P : Str → Prop) (c : List Str) : Prop where
  good : ∀ k ∈ c, P k
  fin : ∀ x ∈ ws, Str.ofString "c" ++ x ∈ c
  size : c.length + left ws c ≤ 3 * ws.length
noncomputable def Closed (rs : List Row) (n : Int) (c : List Str) (x st : Str) : Prop := st ++ x ∉ c → leadsTo rs st x n c = false
theorem mem_addKey {c : List Str} {k x : Str} : x ∈ addKey c k ↔ x ∈ c ∨ x = k := by
  unfold addKey
  by_cases h : k ∈ c
  · rw [if_pos h]
    exact ⟨.inl, fun q => q.elim id fun e => e ▸ h⟩
  · rw [if_neg h]; simp
theorem addKey_length (c : List Str) (k : Str) : (addKey c k).length ≤ c.length + 1 := by
  unfold addKey; split <;> simp
theorem left_le (ws c : List Str) : left ws c ≤ 2 * ws.length := by
  unfold left
  refine Nat.le_trans (List.length_filter_le _ _) (Nat.le_of_eq ?_)
  unfold univ
  induction ws with
  | nil => rfl
  | cons x r ih => rw [List.flatMap_cons, List.length_append, ih]; simp; omega
theorem filter_lt {α : Type} {p q : α → Bool} : ∀ {l : List α} {x : α}, (∀ y, q y = true → p y = true) → x ∈ l → p x = true → q x = false → (l.filter q).length < (l.filter p).length
  | a :: l, x, h, hx, hp, hq => by
    have hle : (l.filter q).length ≤ (l.filter p).length := by
      clear hx
      induction l with
      | nil => exact Nat.le_refl _
      | cons b r ih =>
        by_cases hb : q b = true
        · rw [List.filter_cons_of_pos hb, List.filter_cons_of_pos (h b hb)]; simpa using ih
        · rw [List.filter_cons_of_neg hb]
          by_cases hb' : p b = true
          · rw [List.filter_cons_of_pos hb']; simp only [List.length_cons]; omega
          · rw [List.filter_cons_of_neg hb']; exact ih
    rcases List.mem_cons.mp hx with rfl | hx
    · rw [List.filter_cons_of_pos hp, List.filter_cons_of_neg (by simp [hq])]
      simp only [List.length_cons]; omega
    · have ih := filter_lt h hx hp hq
      by_cases hb : q a = true
      · rw [List.filter_cons_of_pos hb, List.filter_cons_of_pos (h a hb)]; simpa using ih
      · rw [List.filter_cons_of_neg hb]
        by_cases hb' : p a = true
        · rw [List.filter_cons_of_pos hb']; simp only [List.length_cons]; omega
        · rw [List.filter_cons_of_neg hb']; exact ih
theorem left_add {ws c : List Str} {x st : Str} (hx : x ∈ ws) (hst : st = Str.ofString "a" ∨ st = Str.ofString "b") (hn : st ++ x ∉ c) : left ws (addKey c (st ++ x)) < left ws c := by
  unfold left
  refine filter_lt (x := st ++ x) (fun y hy => ?_) ?_ (by simpa using hn) (by simp [mem_addKey])
  · have : y ∉ addKey c (st ++ x) := by simpa using hy
    simpa using fun h => this (mem_addKey.mpr (.inl h))
  · unfold univ
    rw [List.mem_flatMap]
    refine ⟨x, hx, ?_⟩
    rcases hst with rfl | rfl <;> simp
theorem HomeInv.add {rs : List Row} {ws : List Str} {n : Int} {P : Str → Prop} {c : List Str} {x st : Str} (H : HomeInv rs ws n P c) (hx : x ∈ ws) (hst : st = Str.ofString "a" ∨ st = Str.ofString "b") (hn : st ++ x ∉ c) (hp : P (st ++ x)) : HomeInv rs ws n P (addKey c (st ++ x)) where
  good := fun k hk => (mem_addKey.mp hk).elim (H.good k) fun e => e ▸ hp
  fin := fun y hy => mem_addKey.mpr (.inl (H.fin y hy))
  size := by
    have a := left_add hx hst hn
    have b := addKey_length c (st ++ x)
    have d := H.size
    omega
theorem HomeInv.le {rs : List Row} {ws : List Str} {n : Int} {P : Str → Prop} {c : List Str} (H : HomeInv rs ws n P c) (h : ws.length ≤ 100) : c.length ≤ 1000 := by
  have := H.size; omega
/-- within a pass: where it stands, from the keys c₀ at its start -/
noncomputable def PassInv (rs : List Row) (n : Int) (ws : List Str) (c₀ c : List Str) (g : Bool) (done : Str → Str → Prop) : Prop :=
  (g = false → c = c₀ ∧ ∀ x st, done x st → Closed rs n c x st) ∧ (g = true → left ws c < left ws c₀)
theorem PassInv.step {rs : List Row} {n : Int} {ws : List Str} {c₀ c : List Str} {g : Bool} {D D' : Str → Str → Prop} {x st : Str} (h : PassInv rs n ws c₀ c g D) (hd : ∀ y s, D' y s → D y s ∨ (y = x ∧ s = st)) (hx : Closed rs n c x st) : PassInv rs n ws c₀ c g D' :=
  ⟨fun hg => ⟨(h.1 hg).1, fun y s hy => (hd y s hy).elim ((h.1 hg).2 y s) fun e => by rw [e.1, e.2]; exact hx⟩, h.2⟩
theorem PassInv.grow {rs : List Row} {n : Int} {ws : List Str} {c₀ c : List Str} {g : Bool} {D D' : Str → Str → Prop} {x st : Str} (h : PassInv rs n ws c₀ c g D) (hx : x ∈ ws) (hst : st = Str.ofString "a" ∨ st = Str.ofString "b") (hn : st ++ x ∉ c) : PassInv rs n ws c₀ (addKey c (st ++ x)) true D' :=
  ⟨(fun e => nomatch e), fun _ => by
    have a := left_add hx hst hn
    cases g with
    | false => rw [← (h.1 rfl).1]; exact a
    | true => exact Nat.lt_trans a (h.2 rfl)⟩
theorem PassInv.done {rs : List Row} {n : Int} {ws : List Str} {c₀ c : List Str} {g : Bool} {D D' : Str → Str → Prop} (h : PassInv rs n ws c₀ c g D) (hd : ∀ y s, D' y s → D y s) : PassInv rs n ws c₀ c g D' :=
  ⟨fun hg => ⟨(h.1 hg).1, fun y s hy => (h.1 hg).2 y s (hd y s hy)⟩, h.2⟩
theorem pass_next {ws ys : List Str} {i j : Nat} {x st : Str} (hst : ys[j]? = some st) : ∀ y s, ((y ∈ ws.take i ∧ (s = Str.ofString "a" ∨ s = Str.ofString "b")) ∨ (y = x ∧ s ∈ ys.take (j + 1))) →
    ((y ∈ ws.take i ∧ (s = Str.ofString "a" ∨ s = Str.ofString "b")) ∨ (y = x ∧ s ∈ ys.take j)) ∨ (y = x ∧ s = st) := by
  rintro y s (h | ⟨rfl, h⟩)
  · exact .inl (.inl h)
  · rw [take_snoc hst] at h
    rcases List.mem_append.mp h with h | h
    · exact .inl (.inr ⟨rfl, h⟩)
    · exact .inr ⟨rfl, List.mem_singleton.mp h⟩
theorem str_ba : (Str.ofString "ba").cps.toList.map (fun c => (⟨#[c]⟩ : Str)) = [Str.ofString "b", Str.ofString "a"] := by decide +kernel
theorem str_ba' : (Str.ofString "ba").cps.all (· < 128) = true := by decide +kernel
noncomputable def JH1 (w : World) (H dr wl : Addr) (news : Led) (ws : List (Str × Tok)) (n : Int) (tn : Tok) (P : Str → Prop) (i : Nat) (m : Str → Option Value) (nx : Led) : Prop := ∃ o c, nx = (H, o) :: news ∧ DictIs w H o c ∧ m (Str.ofString "home") = some (.ref H) ∧ m (Str.ofString "drawn") = some (.ref dr) ∧ m (Str.ofString "words") = some (.ref wl) ∧ m (Str.ofString "longest") = some (.int n tn) ∧ c.length ≤ i ∧ (∀ y ∈ c, P y) ∧ ∀ x ∈ (ws.map (·.1)).take i, Str.ofString "c" ++ x ∈ c
noncomputable def JH2 (w : World) (H dr wl : Addr) (news : Led) (rs : List Row) (ws : List (Str × Tok)) (n : Int) (tn : Tok) (P : Str → Prop) (z : Nat) (m : Str → Option Value) (nx : Led) : Prop := ∃ o c g, nx = (H, o) :: news ∧ DictIs w H o c ∧ m (Str.ofString "home") = some (.ref H) ∧ m (Str.ofString "drawn") = some (.ref dr) ∧ m (Str.ofString "words") = some (.ref wl) ∧ m (Str.ofString "longest") = some (.int n tn) ∧ m (Str.ofString "grown") = some (.bool g) ∧ HomeInv rs (ws.map (·.1)) n P c ∧ z = 2 * left (ws.map (·.1)) c + g.toNat ∧ (g = false → ∀ x ∈ ws.map (·.1), ∀ st, st = Str.ofString "a" ∨ st = Str.ofString "b" → Closed rs n c x st)
noncomputable def JH3 (w : World) (H dr wl : Addr) (news : Led) (rs : List Row) (ws : List (Str × Tok)) (n : Int) (tn : Tok) (P : Str → Prop) (c₀ : List Str) (i : Nat) (m : Str → Option Value) (nx : Led) : Prop := ∃ o c g, nx = (H, o) :: news ∧ DictIs w H o c ∧ m (Str.ofString "home") = some (.ref H) ∧ m (Str.ofString "drawn") = some (.ref dr) ∧ m (Str.ofString "words") = some (.ref wl) ∧ m (Str.ofString "longest") = some (.int n tn) ∧ m (Str.ofString "grown") = some (.bool g) ∧ HomeInv rs (ws.map (·.1)) n P c ∧ PassInv rs n (ws.map (·.1)) c₀ c g (fun x st => x ∈ (ws.map (·.1)).take i ∧ (st = Str.ofString "a" ∨ st = Str.ofString "b"))
noncomputable def JH4 (w : World) (H dr wl : Addr) (news : Led) (rs : List Row) (ws : List (Str × Tok)) (n : Int) (tn : Tok) (P : Str → Prop) (c₀ : List Str) (I : Addr) (oI : Obj) (i : Nat) (x : Str) (tx : Tok) (j : Nat) (m : Str → Option Value) (nx : Led) : Prop := ∃ o c g, nx = (H, o) :: (I, oI) :: news ∧ DictIs w H o c ∧ m (Str.ofString "home") = some (.ref H) ∧ m (Str.ofString "drawn") = some (.ref dr) ∧ m (Str.ofString "words") = some (.ref wl) ∧ m (Str.ofString "longest") = some (.int n tn) ∧ m (Str.ofString "grown") = some (.bool g) ∧ m (Str.ofString "word") = some (.str x tx) ∧ HomeInv rs (ws.map (·.1)) n P c ∧ PassInv rs n (ws.map (·.1)) c₀ c g (fun y st => (y ∈ (ws.map (·.1)).take i ∧ (st = Str.ofString "a" ∨ st = Str.ofString "b")) ∨ (y = x ∧ st ∈ [Str.ofString "b", Str.ofString "a"].take j))
theorem home_con (w : World) (news : Led) (dr wl : Addr) (rs : List Row) (k kw : Nat) (ws : List (Str × Tok)) (n : Int) (tn : Tok) (P : Str → Prop)
   (hd : (dr, listOf (rvals rs).toArray k) ∈ news) (hrs : RowsIn news rs) (hlen : ∀ r ∈ rs, r.b.length ≤ 10 ∧ r.d.length ≤ 10 ∧ r.sg.length ≤ 10 ∧ r.g.length ≤ 10)
   (hwl : (wl, listOf (strValues ws).toArray kw) ∈ news) (hws : ∀ p ∈ ws, p.1.length ≤ 10) (hwn : ws.length ≤ 100)
   (hP0 : ∀ x ∈ ws.map (·.1), P (Str.ofString "c" ++ x))
   (hP1 : ∀ c : List Str, (∀ k ∈ c, P k) → ∀ x ∈ ws.map (·.1), ∀ st, st = Str.ofString "a" ∨ st = Str.ofString "b" → leadsTo rs st x n c = true → P (st ++ x)) :
   Con 10 w 264 [.ref dr, .ref wl, .int n tn] news (fun r news' => ∃ (H : Addr) (o : Obj) (c : List Str), r = .ref H ∧ news' = (H, o) :: news ∧ DictIs w H o c ∧ (∀ k ∈ c, P k) ∧ (∀ x ∈ ws.map (·.1), Str.ofString "c" ++ x ∈ c) ∧
     ∀ x ∈ ws.map (·.1), ∀ st, st = Str.ofString "a" ∨ st = Str.ofString "b" → Closed rs n c x st) := by
  w_top off; (have hFill : Mine.fillT PySem.Challenge.rw_re0169_01 Mine.head.heap_1_39 := (by k_fill; exact ⟨rfl, rfl⟩); clear hFill)
  (try unfold Mine.Con)
  unfold Mine.ConK
  intro mean mg mb dp un gd cn cs a ccd cl outer A₀ base h₀ L m s Q E B F X N T hk hdp hun hret
  refine wpAny_call ?_
  k_dflt (refine' code_def (binds := [(Str.ofString "drawn", .ref dr), (Str.ofString "words", .ref wl), (Str.ofString "longest", .int n tn)]) ?k1 ?k2 ?k3 ?k4 ?k5 ?kA ?kF ?kK ?k6 ?k7 ?k8 ?k9 ?kB ?_ ?c2 ?c3 ?c4 ?c5; (case kA => exact rfl); (case kF => exact rfl); (case kK => assumption); (case k1 => k_asm); (case k2 => k_asm); (case k3 => k_asm); (case k4 => k_asm); (case k5 => k_asm); (case k6 => k_is); (case k7 => k_is); (case k8 => ktr_room); (case k9 => first | exact BindsTo.of_eq rfl | exact binds_K (by k_in) rfl (by k_is) rfl rfl rfl); (case c5 => decide); (case kB => exact locs rfl); (case c2 => exact rfl); (case c3 => exact rfl); (case c4 => exact rfl); k_whole; intro g0 L0 h1 FG0 F1 N1 B1 X1 T1; (try dsimp only); (try k_fold))
  k_steps
  refine Stop.mk ?_
  rename Fr g0 L0 _ _ => F2
  rename News g0 L0 _ _ => N2
  rename Addr => H
  rename Obj => o0
  rename (_ == sysModules) = false => lo
  rename Obj.IsDictOf (PySem.strKind _ _) _ _ => hs0
  rename FlatPairs PyData.str _ _ => fs0
  rename ∀ q ∈ news, _ < _ => hlt
  have hoffH : ∀ q ∈ news, q.1 ≠ H := fun q hq => Nat.ne_of_lt (hlt q hq)
  refine For_turns F2 ?_
  k_steps
  refine Stop.mk ?_
  refine turns_list (vs := strValues ws) (k := kw) (nx₀ := (H, o0) :: news) (JH1 w H dr wl news ws n tn P) rfl F2 N2 (fun _ h => h) ⟨o0, [], rfl, ⟨lo, [], hs0, fs0⟩, rfl, rfl, rfl, rfl, Nat.le_refl _, (fun _ h => nomatch h), (fun x h => by simp at h)⟩ ?_ ?_ ?_
  · rintro i m nx ⟨o, c, rfl, _⟩
    exact .tail _ hwl
  · rintro I hI i v m₁ nx h tk oI hv ⟨o, c, rfl, D, q1, q2, q3, q4, hcl, hcP, hcx⟩ hoff F3 N3
    have F4 := know4 F3 q1 q2 q3 q4
    clear F3
    obtain ⟨x, tx, rfl, hx⟩ := strValues_get hv
    have hxm := List.mem_of_getElem? hx
    have hxl : x.length ≤ 10 := by
      obtain ⟨p, hp, rfl⟩ := List.mem_map.mp hxm
      exact hws p hp
    have hiw : i < ws.length := by
      have := (List.getElem?_eq_some_iff.mp hx).1
      simpa using this
    k_steps
    refine Stop.mk ?_
    rename Fr g0 L0 _ _ => F5
    rename News g0 L0 _ _ => N5
    refine home_set ((I, oI) :: news) F5 N5 D (by k_mem) ?_ (by omega) ?_
    · intro p hp
      rcases List.mem_cons.mp hp with rfl | hp
      · exact ⟨.head _, (hoff (H, o) (.head _)).symm⟩
      · exact ⟨.tail _ (.tail _ hp), hoffH p hp⟩
    intro h6 o6 F6 N6 D6
    clear F5 N5
    (try k_sweep)
    k_steps
    refine TurnEnd'.mk' (nx := (H, o6) :: news) (by assumption) (by assumption) (by k_mem) ?_ ?_ ⟨o6, _, rfl, D6, rfl, rfl, rfl, rfl, Nat.le_trans (addKey_length _ _) (by omega), ?_, ?_⟩
    · intro p hp
      rcases List.mem_cons.mp hp with rfl | hp
      · exact .head _
      · exact .tail _ (.tail _ hp)
    · intro p hp
      rcases List.mem_cons.mp hp with rfl | hp
      · exact hoff (H, o) (.head _)
      · exact hoff p (.tail _ hp)
    · intro y hy
      rcases mem_addKey.mp hy with hy | rfl
      · exact hcP y hy
      · exact hP0 x hxm
    · intro y hy
      rw [take_snoc hx] at hy
      rcases List.mem_append.mp hy with hy | hy
      · exact mem_addKey.mpr (.inl (hcx y hy))
      · rw [List.mem_singleton.mp hy]; exact mem_addKey.mpr (.inr rfl)
  · rintro m₁ nx h tk ⟨o, c, rfl, D, q1, q2, q3, q4, hcl, hcP, hcx⟩ F3 N3
    have F4 := know4 F3 q1 q2 q3 q4
    clear F3 F2 N2
    rw [strValues_length] at hcl hcx
    rw [List.take_of_length_le (by simp)] at hcx
    have hI0 : HomeInv rs (ws.map (·.1)) n P c := ⟨hcP, hcx, by
      have := left_le (ws.map (·.1)) c
      rw [List.length_map] at this ⊢
      omega⟩
    k_steps
    refine Stop.mk ?_
    rename Fr g0 L0 _ _ => F5
    rename News g0 L0 _ _ => N5
    refine while_inv (JH2 w H dr wl news rs ws n tn P) _ F5 N5 ⟨o, c, true, rfl, D, rfl, rfl, rfl, rfl, rfl, hI0, rfl, (fun h => nomatch h)⟩ ?_
    clear F5 N5 D q1 q2 q3 q4 hcl hcP hcx hI0
    rintro z m₂ nx2 h2 tk2 ⟨o, c₀, g, rfl, D, q1, q2, q3, q4, q5, hI0, hz, hcl0⟩ F6 N6
    have F7 := know5 F6 q1 q2 q3 q4 q5
    clear F6
    k_steps
    · rename g = true => hg
      subst hg
      refine Stop.mk ?_
      rename Fr g0 L0 _ _ => F5
      rename News g0 L0 _ _ => N5
      refine For_turns F5 ?_
      k_steps
      refine Stop.mk ?_
      refine turns_list (vs := strValues ws) (k := kw) (nx₀ := (H, o) :: news) (JH3 w H dr wl news rs ws n tn P c₀) rfl F5 N5 (fun _ h => h) ⟨o, c₀, false, rfl, D, rfl, rfl, rfl, rfl, rfl, hI0, fun _ => ⟨rfl, fun x st hx => by simp at hx⟩, (fun h => nomatch h)⟩ ?_ ?_ ?_
      · rintro i m nx ⟨o, c, g, rfl, _⟩
        exact .tail _ hwl
      · clear F5 N5 F7 N6 q1 q2 q3 q4 q5 D
        rintro I hI i v m₁ nx h tk oI hv ⟨o, c, g, rfl, D, q1, q2, q3, q4, q5, hI1, hp1⟩ hoff F3 N3
        have F4 := know5 F3 q1 q2 q3 q4 q5
        clear F3
        obtain ⟨x, tx, rfl, hx⟩ := strValues_get hv
        have hxm := List.mem_of_getElem? hx
        have hxl : x.length ≤ 10 := by
          obtain ⟨p, hp, rfl⟩ := List.mem_map.mp hxm
          exact hws p hp
        have hHI : @Ne Nat H I := hoff (H, o) (.head _)
        k_steps
        refine Stop.mk ?_
        rename Fr g0 L0 _ _ => F5
        rename News g0 L0 _ _ => N5
        refine For_turns F5 ?_
        k_steps
        refine Stop.mk ?_
        refine turns_str (ys := [Str.ofString "b", Str.ofString "a"]) (nx₀ := (H, o) :: (I, oI) :: news) (JH4 w H dr wl news rs ws n tn P c₀ I oI i x tx) rfl F5 N5 ?sub ⟨o, c, g, rfl, D, rfl, rfl, rfl, rfl, rfl, rfl, hI1, ?pi⟩ str_ba' str_ba ?_ ?_
        case sub =>
          intro p hp
          rcases List.mem_cons.mp hp with rfl | hp
          · exact .tail _ (.head _)
          · rcases List.mem_cons.mp hp with rfl | hp
            · exact .head _
            · exact .tail _ (.tail _ hp)
        case pi =>
          refine ⟨fun hg => ⟨(hp1.1 hg).1, fun y st hd => ?_⟩, hp1.2⟩
          rcases hd with hd | hd
          · exact (hp1.1 hg).2 y st hd
          · simp at hd
        · clear F5 N5 q1 q2 q3 q4 q5 D F4 N3 hI1 hp1
          rintro I2 hI2 j st tst m₂ nx h tk oI2 hst ⟨o, c, g, rfl, D, q1, q2, q3, q4, q5, q6, hI1, hp1⟩ hoff2 F3 N3
          have F4 := know6 F3 q1 q2 q3 q4 q5 q6
          clear F3
          have hst2 : st = Str.ofString "a" ∨ st = Str.ofString "b" := by
            have := List.mem_of_getElem? hst
            simp only [List.mem_cons, List.not_mem_nil, or_false] at this
            exact this.symm
          have hstl : st.length ≤ 10 := by rcases hst2 with rfl | rfl <;> decide +kernel
          have hcle := hI1.le (by simpa using hwn)
          k_steps
          · rename st ++ x ∈ c => hin
            show TurnEnd' _ _ _ _ _ _ _
            refine TurnEnd'.mk' (nx := (H, o) :: (I, oI) :: news) (by assumption) (by assumption) (.head _) (fun p hp => .tail _ hp) hoff2 ⟨o, c, g, rfl, D, rfl, rfl, rfl, rfl, rfl, rfl, hI1, hp1.step (pass_next hst) fun h => absurd hin h⟩
          · rename ¬ st ++ x ∈ c => hnin
            rename leadsTo _ _ _ _ _ = true => hld
            refine Stop.mk ?_
            rename Fr g0 L0 _ _ => F5
            rename News g0 L0 _ _ => N5
            refine home_set ((I2, oI2) :: (I, oI) :: news) F5 N5 D (.tail _ (.head _)) ?_ (by omega) ?_
            · intro p hp
              rcases List.mem_cons.mp hp with rfl | hp
              · exact ⟨.head _, (hoff2 (H, o) (.head _)).symm⟩
              · rcases List.mem_cons.mp hp with rfl | hp
                · exact ⟨.tail _ (.tail _ (.head _)), hHI.symm⟩
                · exact ⟨.tail _ (.tail _ (.tail _ hp)), hoffH p hp⟩
            intro h6 o6 F6 N6 D6
            clear F5 N5
            (try k_sweep)
            k_steps
            show TurnEnd' _ _ _ _ _ _ _
            refine TurnEnd'.mk' (nx := (H, o6) :: (I, oI) :: news) (by assumption) (by assumption) (.tail _ (.head _)) ?_ ?_ ⟨o6, _, true, rfl, D6, rfl, rfl, rfl, rfl, rfl, rfl, hI1.add hxm hst2 hnin (hP1 c hI1.good x hxm st hst2 hld), hp1.grow hxm hst2 hnin⟩
            · intro p hp
              rcases List.mem_cons.mp hp with rfl | hp
              · exact .head _
              · exact .tail _ (.tail _ hp)
            · intro p hp
              rcases List.mem_cons.mp hp with rfl | hp
              · exact hoff2 (H, o) (.head _)
              · exact hoff2 p (.tail _ hp)
          · rename leadsTo _ _ _ _ _ = false => hld
            show TurnEnd' _ _ _ _ _ _ _
            refine TurnEnd'.mk' (nx := (H, o) :: (I, oI) :: news) (by assumption) (by assumption) (.head _) (fun p hp => .tail _ hp) hoff2 ⟨o, c, g, rfl, D, rfl, rfl, rfl, rfl, rfl, rfl, hI1, hp1.step (pass_next hst) fun _ => hld⟩
        · clear F5 N5 q1 q2 q3 q4 q5 D F4 N3 hI1 hp1
          rintro m₂ nx h tk ⟨o, c, g, rfl, D, q1, q2, q3, q4, q5, q6, hI1, hp1⟩ F3 N3
          have F4 := know6 F3 q1 q2 q3 q4 q5 q6
          clear F3
          k_steps
          show TurnEnd' _ _ _ _ _ _ _
          refine TurnEnd'.mk' (nx := (H, o) :: news) (by assumption) (by assumption) (.tail _ (.head _)) ?_ ?_ ⟨o, c, g, rfl, D, rfl, rfl, rfl, rfl, rfl, hI1, hp1.done fun y s hy => ?_⟩
          · intro p hp
            rcases List.mem_cons.mp hp with rfl | hp
            · exact .head _
            · exact .tail _ (.tail _ hp)
          · intro p hp
            rcases List.mem_cons.mp hp with rfl | hp
            · exact hHI
            · exact hoff p (.tail _ hp)
          · obtain ⟨h1, h2⟩ := hy
            rw [take_snoc hx] at h1
            rcases List.mem_append.mp h1 with h1 | h1
            · exact .inl ⟨h1, h2⟩
            · refine .inr ⟨List.mem_singleton.mp h1, ?_⟩
              rcases h2 with rfl | rfl <;> simp
      · clear F5 N5 F7 N6 q1 q2 q3 q4 q5 D
        rintro m₂ nx h tk ⟨o, c, g, rfl, D, q1, q2, q3, q4, q5, hI1, hp1⟩ F3 N3
        have F4 := know5 F3 q1 q2 q3 q4 q5
        clear F3
        k_steps
        show WEnd _ _ _ _ _ _
        refine WEnd.mk' (2 * left (ws.map (·.1)) c + g.toNat) (by assumption) (by assumption) ?_ ⟨o, c, g, rfl, D, rfl, rfl, rfl, rfl, rfl, hI1, rfl, fun hg x hx st hst => ?_⟩
        · cases g with
          | false =>
            rw [(hp1.1 rfl).1, hz]; simp
          | true =>
            have := hp1.2 rfl
            rw [hz]; simp; omega
        · refine (hp1.1 hg).2 x st ⟨?_, hst⟩
          rw [strValues_length, List.take_of_length_le (by simp)]
          exact hx
    · rename g = false => hg
      exact hret _ _ _ _ (by assumption) (by assumption) ⟨H, o, c₀, rfl, rfl, D, hI0.good, hI0.fin, hcl0 hg⟩
end Mine
end

section
open PySem PySem.W PyProof.Rows PySem.Builtin PySem.Builtin.Str
set_option Elab.async false
set_option maxRecDepth 100000
set_option maxHeartbeats 8000000
namespace Mine
local macro_rules | `(tactic| walk_at "compareOp NotIn str ref") => `(tactic| (k_here; (with_reducible show wpAny _ _ (compareOp CmpOp.NotIn (Value.str _ _) (Value.ref 46)) _ _ _); k_dflt (refine' tok_notin ?k1 ?k2 ?_; (case k1 => k_asm); (case k2 => k_asm); k_whole)))
noncomputable abbrev cutAt (v : Str) (p z : Nat) : Str := Txt.slice v (some (p : Int)) (some ((p : Int) + (z : Int)))
noncomputable def tokSz (v : Str) (p : Nat) : Nat → Nat
  | z + 2 => if (tokLook (cutAt v p (z + 2))).isSome then z + 2 else tokSz v p (z + 1)
  | z => z
noncomputable def piecesAt (v : Str) : Nat → Nat → List Str
  | 0, _ => []
  | f + 1, p => if p < v.length then cutAt v p (tokSz v p 3) :: piecesAt v f (p + tokSz v p 3) else []
theorem tokSz_yes {v : Str} {p z : Nat} (hz : 1 < z) (h : (tokLook (cutAt v p z)).isSome = true) : tokSz v p z = z := by
  obtain ⟨y, rfl⟩ : ∃ y, z = y + 2 := ⟨z - 2, by omega⟩
  unfold tokSz; rw [if_pos h]
theorem tokSz_no {v : Str} {p z : Nat} (hz : 1 < z) (h : (tokLook (cutAt v p z)).isSome = false) : tokSz v p z = tokSz v p (z - 1) := by
  obtain ⟨y, rfl⟩ : ∃ y, z = y + 2 := ⟨z - 2, by omega⟩
  rw [tokSz, h]; rfl
theorem tokSz_one {v : Str} {p z : Nat} (hz : ¬ 1 < z) : tokSz v p z = z := by
  obtain rfl | rfl : z = 0 ∨ z = 1 := by omega
  · rfl
  · rfl
theorem piecesAt_step {v : Str} {p f z : Nat} (h : p < v.length) (e : tokSz v p 3 = z) : piecesAt v (f + 1) p = cutAt v p z :: piecesAt v f (p + z) := by
  rw [piecesAt, if_pos h, e]
theorem piecesAt_end {v : Str} {p : Nat} (h : ¬ p < v.length) : ∀ f, piecesAt v f p = []
  | 0 => rfl
  | f + 1 => by unfold piecesAt; rw [if_neg h]
theorem pieces_con (w : World) (news : Led) (v : Str) (t : Tok) (hv : v.length ≤ 1000) :
   Con 10 w 224 [.str v t] news (fun r news' => ∃ D l k, r = .ref D ∧ l.map (·.1) = piecesAt v (v.length + 3) 0 ∧ news' = (D, listOf (strValues l).toArray k) :: news) := by
  w_top off; (have hFill : Mine.fillT PySem.Challenge.rw_re0169_01 Mine.head.heap_1_39 := (by k_fill; exact ⟨rfl, rfl⟩); clear hFill)
  (try unfold Mine.Con)
  unfold Mine.ConK
  intro mean mg mb dp un gd cn cs a ccd cl outer A₀ base h₀ L m s Q E B F X N T hk hdp hun hret
  refine wpAny_call ?_
  k_dflt (refine' code_def (binds := [(Str.ofString "text", .str v t)]) ?k1 ?k2 ?k3 ?k4 ?k5 ?kA ?kF ?kK ?k6 ?k7 ?k8 ?k9 ?kB ?_ ?c2 ?c3 ?c4 ?c5; (case kA => exact rfl); (case kF => exact rfl); (case kK => assumption); (case k1 => k_asm); (case k2 => k_asm); (case k3 => k_asm); (case k4 => k_asm); (case k5 => k_asm); (case k6 => k_is); (case k7 => k_is); (case k8 => ktr_room); (case k9 => first | exact BindsTo.of_eq rfl | exact binds_K (by k_in) rfl (by k_is) rfl rfl rfl); (case c5 => decide); (case kB => exact locs rfl); (case c2 => exact rfl); (case c3 => exact rfl); (case c4 => exact rfl); k_whole; intro g0 L0 h1 FG0 F1 N1 B1 X1 T1; (try dsimp only); (try k_fold))
  k_steps
  refine Stop.mk ?_
  rename Fr g0 L0 _ _ => F2
  rename News g0 L0 _ _ => N2
  rename ∀ q ∈ news, _ < _ => hlt
  refine while_inv (fun n m nx => m (Str.ofString "text") = some (.str v t) ∧ ∃ (D : Addr) (l : List (Str × Tok)) (k : Nat) (p : Nat) (tp : Tok), (∀ q ∈ news, q.1 ≠ D) ∧ nx = (D, listOf (strValues l).toArray k) :: news ∧ m (Str.ofString "pieces") = some (.ref D) ∧ m (Str.ofString "place") = some (.int p tp) ∧ p + n = v.length + 3 ∧ l.length ≤ p ∧
      ∃ f, n ≤ f ∧ l.map (·.1) ++ piecesAt v f p = piecesAt v (v.length + 3) 0) (v.length + 3) F2 N2 ?_ ?_
  · exact ⟨rfl, _, [], _, 0, _, fun q hq => Nat.ne_of_lt (hlt q hq), rfl, rfl, rfl, by omega, by simp, _, Nat.le_refl _, rfl⟩
  · rintro n m₁ nx h tk ⟨ht, D, l, k, p, tp, hD, rfl, hp, hpl, hn, hlp, f, hf, hpc⟩ F3 N3
    have F4 := know3 F3 ht hp hpl
    clear F3
    k_steps
    · refine Stop.mk ?_
      rename (p : Int) < _ => hpv
      rename Fr g0 L0 _ _ => F5
      rename News g0 L0 _ _ => N5
      refine while_inv (fun z m nx => m (Str.ofString "text") = some (.str v t) ∧ nx = (D, listOf (strValues l).toArray k) :: news ∧ m (Str.ofString "pieces") = some (.ref D) ∧ m (Str.ofString "place") = some (.int p tp) ∧ ∃ tz, m (Str.ofString "size") = some (.int z tz) ∧ 1 ≤ z ∧ z ≤ 3 ∧ tokSz v p 3 = tokSz v p z) 3 F5 N5 ⟨rfl, rfl, rfl, rfl, _, rfl, by omega, by omega, rfl⟩ ?_
      rintro z m₂ nx2 h5 tk5 ⟨ht5, rfl, hp5, hpl5, tz, hz, hz1, hz3, hzz⟩ F6 N6
      have F7 := know4 F6 ht5 hp5 hpl5 hz
      clear F6
      have hpv' : p < v.length := by omega
      k_steps
      · rename (1 : Int) < _ => h1z
        rename Option.isSome _ = true => hyes
        have hsz := hzz.trans (tokSz_yes (by omega) hyes)
        obtain ⟨f', rfl⟩ : ∃ f', f = f' + 1 := ⟨f - 1, by omega⟩
        show WEnd _ _ _ _ _ _
        refine WEnd.mk' (n - z) (by assumption) (by assumption) (by omega) ⟨rfl, D, l ++ [(cutAt v p z, _)], _, p + z, _, hD, by rw [strValues_append]; rfl, rfl, rfl, by omega, by simp; omega, f', by omega, ?_⟩
        rw [← hpc, piecesAt_step hpv' hsz]
        simp
      · rename (1 : Int) < _ => h1z
        rename Option.isSome _ = false => hno
        rename Fr g0 L0 _ _ => F8
        rw [show ((z : Int) - 1) = ((z - 1 : Nat) : Int) by omega] at F8
        show WEnd _ _ _ _ _ _
        refine WEnd.mk' (z - 1) F8 (by assumption) (by omega) ⟨rfl, rfl, rfl, rfl, _, rfl, by omega, by omega, hzz.trans (tokSz_no (by omega) hno)⟩
      · rename ¬ (1 : Int) < _ => h1z
        have hsz := hzz.trans (tokSz_one (by omega))
        obtain ⟨f', rfl⟩ : ∃ f', f = f' + 1 := ⟨f - 1, by omega⟩
        show WEnd _ _ _ _ _ _
        refine WEnd.mk' (n - z) (by assumption) (by assumption) (by omega) ⟨rfl, D, l ++ [(cutAt v p z, _)], _, p + z, _, hD, by rw [strValues_append]; rfl, rfl, rfl, by omega, by simp; omega, f', by omega, ?_⟩
        rw [← hpc, piecesAt_step hpv' hsz]
        simp
    · rename ¬ (p : Int) < _ => hpv
      rw [piecesAt_end (by omega), List.append_nil] at hpc
      exact hret _ _ _ _ (by assumption) (by assumption) ⟨D, l, k, rfl, hpc, rfl⟩
end Mine
end

section
open PySem PySem.W PyProof.Rows PySem.Builtin PySem.Builtin.Str
set_option Elab.async false
set_option maxRecDepth 100000
set_option maxHeartbeats 8000000
namespace Mine
local macro_rules | `(tactic| walk_at "call ref") => `(tactic| (k_here; (with_reducible show wpAny _ _ (call (Value.ref 224) _ _) _ _ _); k_dflt (refine' Mine.ConK.usa (pieces_con _ _ _ _ ?z1) ?_; (case z1 => assumption); k_whole); intro r9 nw9 h9 tk9 F9 N9 hp9; obtain ⟨D9, l9, k9, e9, f9, g9⟩ := hp9; subst e9; subst g9; (try dsimp only); (try k_sweep)))
local macro_rules | `(tactic| walk_at "getMethod ref") => `(tactic| (k_here; (with_reducible show wpAny _ _ (getMethod (Value.ref 46) _ _) _ _ _); k_dflt (refine' tok_meth ?k1 ?k2 ?_; (case k1 => k_asm); (case k2 => k_asm); k_whole)))
local macro_rules | `(tactic| walk_at "call builtin:dict.get") => `(tactic| (k_here; (with_reducible show wpAny _ _ (call (Value.builtin _) [Value.ref 46, _, _]) _ _ _); k_dflt (refine' tok_get ?k1 ?k2 ?_; (case k1 => k_asm); (case k2 => k_asm); k_whole); intro tk9))
theorem nonterm_con (w : World) (news : Led) (k : Int) (t : Tok) :
   Con 5 w 55 [.int k t] news (fun r news' => r = .bool (decide (256 ≤ k)) ∧ news' = news) := by
  w_top off; (have hFill : Mine.fillT PySem.Challenge.rw_re0169_01 Mine.head.heap_1_39 := (by k_fill; exact ⟨rfl, rfl⟩); clear hFill)
  (try unfold Mine.Con)
  unfold Mine.ConK
  intro mean mg mb dp un gd cn cs a ccd cl outer A₀ base h₀ L m s Q E B F X N T hk hdp hun hret
  refine wpAny_call ?_
  k_dflt (refine' code_def (binds := [(Str.ofString "x", .int k t)]) ?k1 ?k2 ?k3 ?k4 ?k5 ?kA ?kF ?kK ?k6 ?k7 ?k8 ?k9 ?kB ?_ ?c2 ?c3 ?c4 ?c5; (case kA => exact rfl); (case kF => exact rfl); (case kK => assumption); (case k1 => k_asm); (case k2 => k_asm); (case k3 => k_asm); (case k4 => k_asm); (case k5 => k_asm); (case k6 => k_is); (case k7 => k_is); (case k8 => ktr_room); (case k9 => first | exact BindsTo.of_eq rfl | exact binds_K (by k_in) rfl (by k_is) rfl rfl rfl); (case c5 => decide); (case kB => exact locs rfl); (case c2 => exact rfl); (case c3 => exact rfl); (case c4 => exact rfl); k_whole; intro g0 L0 h1 FG0 F1 N1 B1 X1 T1; (try dsimp only); (try k_fold))
  k_steps
  exact hret _ news _ _ (by assumption) (by assumption) ⟨rfl, rfl⟩
local macro_rules | `(tactic| walk_at "call ref") => `(tactic| (k_here; (with_reducible show wpAny _ _ (call (Value.ref 55) _ _) _ _ _); k_dflt (refine' Mine.ConK.usa (nonterm_con _ _ _ _) ?_; skip; k_whole); intro r9 nw9 h9 tk9 F9 N9 hp9; obtain ⟨e9, f9⟩ := hp9; subst e9; subst f9; (try dsimp only); (try k_sweep)))
noncomputable def kindOf (x : Str) : Int := ((tokLook x).map (·.1)).getD (256 + (((Txt.item x 0).cps.getD 0 0 : Nat) : Int))
noncomputable def stepF (st : Int × Str × Str) (x : Str) : Int × Str × Str :=
  if 256 ≤ kindOf x then (st.1, st.2.1, Txt.lower x)
  else if kindOf x = 33 ∨ kindOf x = 34 then (kindOf x, st.2.1, st.2.2)
  else (st.1, Str.ofString " " ++ x ++ Str.ofString " ", st.2.2)
noncomputable def stepOf (v : Str) : Int × Str × Str := (piecesAt v (v.length + 3) 0).foldl stepF (0, Str.ofString "", Str.ofString "")
noncomputable abbrev tup3 (d : Int) (td : Tok) (x : Str) (t : Tok) (y : Str) (u : Tok) : Obj := { cls := .type "tuple", data := .seq #[.int d td, .str x t, .str y u] }
theorem foldl_snoc {α β : Type} {f : β → α → β} {b : β} {l : List α} {i : Nat} {x : α} (h : l[i]? = some x) : (l.take (i + 1)).foldl f b = f ((l.take i).foldl f b) x := by
  rw [take_snoc h, List.foldl_append]; rfl
theorem step_con (w : World) (news : Led) (v : Str) (t : Tok) (hv : v.length ≤ 1000) (hne : ∀ p ∈ piecesAt v (v.length + 3) 0, 1 ≤ p.length ∧ p.length ≤ 300) :
   Con 15 w 231 [.str v t] news (fun r news' => ∃ D t1 t2 t3, r = Value.ref D ∧ news' = (D, tup3 (stepOf v).1 t1 (stepOf v).2.1 t2 (stepOf v).2.2 t3) :: news) := by
  w_top off; (have hFill : Mine.fillT PySem.Challenge.rw_re0169_01 Mine.head.heap_1_39 := (by k_fill; exact ⟨rfl, rfl⟩); clear hFill)
  (try unfold Mine.Con)
  unfold Mine.ConK
  intro mean mg mb dp un gd cn cs a ccd cl outer A₀ base h₀ L m s Q E B F X N T hk hdp hun hret
  refine wpAny_call ?_
  k_dflt (refine' code_def (binds := [(Str.ofString "value", .str v t)]) ?k1 ?k2 ?k3 ?k4 ?k5 ?kA ?kF ?kK ?k6 ?k7 ?k8 ?k9 ?kB ?_ ?c2 ?c3 ?c4 ?c5; (case kA => exact rfl); (case kF => exact rfl); (case kK => assumption); (case k1 => k_asm); (case k2 => k_asm); (case k3 => k_asm); (case k4 => k_asm); (case k5 => k_asm); (case k6 => k_is); (case k7 => k_is); (case k8 => ktr_room); (case k9 => first | exact BindsTo.of_eq rfl | exact binds_K (by k_in) rfl (by k_is) rfl rfl rfl); (case c5 => decide); (case kB => exact locs rfl); (case c2 => exact rfl); (case c3 => exact rfl); (case c4 => exact rfl); k_whole; intro g0 L0 h1 FG0 F1 N1 B1 X1 T1; (try dsimp only); (try k_fold))
  k_steps
  refine Stop.mk ?_
  rename Fr g0 L0 _ _ => F2
  rename News g0 L0 _ _ => N2
  refine For_turns F2 ?_
  k_steps
  refine Stop.mk ?_
  rename List.map _ _ = piecesAt _ _ _ => hpc
  rename List (Str × Tok) => l
  rename Nat => k9
  rename Fr g0 L0 _ _ => F2
  rename News g0 L0 _ _ => N2
  refine turns_list (vs := strValues l) (k := k9) (fun i m nx => nx = _ ∧ ∃ (d : Int) (td : Tok) (ms : Str) (tm : Tok) (gl : Str) (tg : Tok), m (Str.ofString "deed") = some (.int d td) ∧ m (Str.ofString "message") = some (.str ms tm) ∧ m (Str.ofString "goal") = some (.str gl tg) ∧
    ((l.map (·.1)).take i).foldl stepF (0, Str.ofString "", Str.ofString "") = (d, ms, gl)) rfl F2 N2 (fun _ h => h) ⟨rfl, _, _, _, _, _, _, rfl, rfl, rfl, rfl⟩ ?_ ?_ ?_
  · rintro i m nx ⟨rfl, _⟩
    k_mem
  · rintro I hI i vv m₁ nx h tk oI hvv ⟨rfl, d, td, ms, tm, gl, tg, hd1, hm1, hg1, hfo⟩ hoff F3 N3
    have F4 := know3 F3 hd1 hm1 hg1
    clear F3
    obtain ⟨x, tx, rfl, hx'⟩ := strValues_get hvv
    have hxn : 1 ≤ x.length ∧ x.length ≤ 300 := hne x (by rw [← hpc]; exact List.mem_of_getElem? hx')
    obtain ⟨hx1, hx2⟩ := hxn
    have hfo' := (foldl_snoc (f := stepF) (b := (0, Str.ofString "", Str.ofString "")) hx').trans (congrArg (stepF · x) hfo)
    k_steps
    · rename (256 : Int) ≤ _ => hk1
      replace hk1 : 256 ≤ kindOf x := hk1
      show TurnEnd' _ _ _ _ _ _ _
      refine TurnEnd'.mk' (by assumption) (by assumption) (by k_mem) (fun q hq => .tail _ hq) hoff ⟨rfl, _, _, _, _, _, _, rfl, rfl, rfl, ?_⟩
      rw [hfo', stepF, if_pos hk1]
    · rename ¬ (256 : Int) ≤ _ => hk1
      replace hk1 : ¬ 256 ≤ kindOf x := hk1
      rename _ = (33 : Int) => hk2
      show TurnEnd' _ _ _ _ _ _ _
      refine TurnEnd'.mk' (by assumption) (by assumption) (by k_mem) (fun q hq => .tail _ hq) hoff ⟨rfl, _, _, _, _, _, _, rfl, rfl, rfl, ?_⟩
      rw [hfo', stepF, if_neg hk1, if_pos (.inl hk2)]
      rfl
    · rename ¬ (256 : Int) ≤ _ => hk1
      replace hk1 : ¬ 256 ≤ kindOf x := hk1
      rename _ = (34 : Int) => hk2
      show TurnEnd' _ _ _ _ _ _ _
      refine TurnEnd'.mk' (by assumption) (by assumption) (by k_mem) (fun q hq => .tail _ hq) hoff ⟨rfl, _, _, _, _, _, _, rfl, rfl, rfl, ?_⟩
      rw [hfo', stepF, if_neg hk1, if_pos (.inr hk2)]
      rfl
    · rename ¬ (256 : Int) ≤ _ => hk1
      replace hk1 : ¬ 256 ≤ kindOf x := hk1
      rename _ ≠ (34 : Int) => hk3
      rename _ ≠ (33 : Int) => hk2
      show TurnEnd' _ _ _ _ _ _ _
      refine TurnEnd'.mk' (by assumption) (by assumption) (by k_mem) (fun q hq => .tail _ hq) hoff ⟨rfl, _, _, _, _, _, _, rfl, rfl, rfl, ?_⟩
      rw [hfo', stepF, if_neg hk1, if_neg (fun h => h.elim hk2 hk3)]
  · rintro m₁ nx h tk ⟨rfl, d, td, ms, tm, gl, tg, hd1, hm1, hg1, hfo⟩ F3 N3
    have F4 := know3 F3 hd1 hm1 hg1
    clear F3
    have he : stepOf v = (d, ms, gl) := by
      unfold stepOf
      rw [← hpc, ← hfo, List.take_of_length_le]
      simp [strValues_length]
    k_steps
    refine hret _ _ _ _ (by assumption) (sub_1_2 (by assumption)) ⟨_, td, tm, tg, rfl, ?_⟩
    rw [he]
end Mine
end

section
open PySem PySem.W PyProof.Rows PySem.Builtin PySem.Builtin.Str
set_option Elab.async false
set_option maxRecDepth 100000
set_option maxHeartbeats 8000000
namespace Mine
local macro_rules | `(tactic| walk_at "exec Assign cons ListComp") => `(tactic| (refine Mine.stopAt ?_))
local macro_rules | `(tactic| walk_at "exec Assign") => `(tactic| ((with_reducible show wpAny _ _ (PySem.exec (.Assign _ (.ListComp _ _ _ _) _) _) _ _ _); refine Mine.stopAt ?_))
local macro_rules | `(tactic| walk_at "call builtin:list.extend") => `(tactic| (refine Mine.stopAt ?_))
noncomputable def lits01 : List Str := [Str.ofString "0", Str.ofString "1"]
noncomputable def layerOf : Nat → List Str
  | 0 => [Str.ofString ""]
  | i + 1 => (layerOf i).flatMap fun a => lits01.map (a ++ ·)
noncomputable def wordsOf : Nat → List Str
  | 0 => [Str.ofString ""]
  | i + 1 => wordsOf i ++ layerOf (i + 1)
theorem str_01 : (Str.ofString "01").cps.toList.map (fun c => (⟨#[c]⟩ : Str)) = lits01 := by decide +kernel
theorem str_01' : (Str.ofString "01").cps.all (· < 128) = true := by decide +kernel
theorem layer_length : ∀ (i : Nat), ∀ x ∈ layerOf i, x.length = i
  | 0, x, h => by rw [List.mem_singleton.mp h]; rfl
  | i + 1, x, h => by
    obtain ⟨a, ha, hx⟩ := List.mem_flatMap.mp h
    obtain ⟨b, hb, rfl⟩ := List.mem_map.mp hx
    have hb1 : b.length = 1 := by
      simp only [lits01, List.mem_cons, List.not_mem_nil, or_false] at hb
      rcases hb with rfl | rfl <;> decide +kernel
    rw [Str.length_append, layer_length i a ha, hb1]
theorem layer_count : ∀ i, (layerOf i).length = 2 ^ i
  | 0 => rfl
  | i + 1 => by
    have hb : ∀ (zs : List Str), (zs.flatMap (fun a => lits01.map (a ++ ·))).length = zs.length * 2 := by
      intro zs
      induction zs with
      | nil => rfl
      | cons z r ih => rw [List.flatMap_cons, List.length_append, ih, List.length_map, List.length_cons, Nat.succ_mul, Nat.add_comm]; rfl
    show ((layerOf i).flatMap fun a => lits01.map (a ++ ·)).length = _
    rw [hb, layer_count i, Nat.pow_succ]
theorem words_count : ∀ i, (wordsOf i).length = 2 ^ (i + 1) - 1
  | 0 => rfl
  | i + 1 => by
    have h : 1 ≤ 2 ^ (i + 1) := Nat.one_le_two_pow
    rw [wordsOf, List.length_append, words_count i, layer_count, Nat.pow_succ 2 (i + 1)]
    omega
theorem words_con (w : World) (news : Led) (n : Nat) (t : Tok) (hn1 : 1 ≤ n) (hn3 : n ≤ 3) :
   Con 10 w 250 [.int n t] news (fun r news' => ∃ (D : Addr) (l : List (Str × Tok)) (k : Nat), r = .ref D ∧ l.map (·.1) = wordsOf n ∧ news' = (D, listOf (strValues l).toArray k) :: news) := by
  w_top off; (have hFill : Mine.fillT PySem.Challenge.rw_re0169_01 Mine.head.heap_1_39 := (by k_fill; exact ⟨rfl, rfl⟩); clear hFill)
  (try unfold Mine.Con)
  unfold Mine.ConK
  intro mean mg mb dp un gd cn cs a ccd cl outer A₀ base h₀ L m s Q E B F X N T hk hdp hun hret
  refine wpAny_call ?_
  k_dflt (refine' code_def (binds := [(Str.ofString "longest", .int n t)]) ?k1 ?k2 ?k3 ?k4 ?k5 ?kA ?kF ?kK ?k6 ?k7 ?k8 ?k9 ?kB ?_ ?c2 ?c3 ?c4 ?c5; (case kA => exact rfl); (case kF => exact rfl); (case kK => assumption); (case k1 => k_asm); (case k2 => k_asm); (case k3 => k_asm); (case k4 => k_asm); (case k5 => k_asm); (case k6 => k_is); (case k7 => k_is); (case k8 => ktr_room); (case k9 => first | exact BindsTo.of_eq rfl | exact binds_K (by k_in) rfl (by k_is) rfl rfl rfl); (case c5 => decide); (case kB => exact locs rfl); (case c2 => exact rfl); (case c3 => exact rfl); (case c4 => exact rfl); k_whole; intro g0 L0 h1 FG0 F1 N1 B1 X1 T1; (try dsimp only); (try k_fold))
  k_steps
  refine Stop.mk ?_
  rename Fr g0 L0 _ _ => F2
  rename News g0 L0 _ _ => N2
  rename ∀ q ∈ news, _ < _ => hlt
  rename _ ∧ AllLt _ news => hlt2
  refine For_turns F2 ?_
  k_steps
  refine Stop.mk ?_
  rename Fr g0 L0 _ _ => F2
  rename News g0 L0 _ _ => N2
  rename IsRange _ _ _ _ _ _ _ _ => hrg
  refine turns_range (n := n) (fun i m nx => ∃ (D E : Addr) (k e : Nat) (ws ls : List (Str × Tok)), m (Str.ofString "words") = some (.ref D) ∧ m (Str.ofString "layer") = some (.ref E) ∧ nx = (E, listOf (strValues ls).toArray e) :: (D, listOf (strValues ws).toArray k) :: news ∧
    (@Ne Nat E D) ∧ (∀ q ∈ news, q.1 ≠ D) ∧ ws.map (·.1) = wordsOf i ∧ ls.map (·.1) = layerOf i) rfl hrg (by first | decide | exact small_one (by l_bnd) (by l_bnd) (by l_bnd) (by l_bnd)) (by first | exact rangeSize_nat _ _ | rfl) F2 N2 (fun _ h => h) ⟨_, _, _, _, [(_, _)], [(_, _)], rfl, rfl, rfl, Nat.ne_of_gt hlt2.1, (fun q hq => Nat.ne_of_lt (hlt q hq)), rfl, rfl⟩ ?_ ?_
  · rintro I hI i ti m₁ nx h tk oI hin ⟨D, E, k, e, ws, ls, q1, q2, rfl, hED, hD, hws, hls⟩ hoff F3 N3
    have F4 := know2 F3 q1 q2
    clear F3
    k_steps
    refine Stop.mk ?_
    rename Fr g0 L0 _ _ => F5
    rename News g0 L0 _ _ => N5
    k_dflt (refine' comp_two (lit := Str.ofString "01") (lits := lits01) (ls := ls) (ax := E) (k := e) rfl F5 N5 (.tail _ (.head _)) (by with_unfolding_all rfl) (by with_unfolding_all rfl) (by decide) rfl (by decide) rfl rfl (by decide +kernel) (by decide +kernel) (by decide +kernel) rfl rfl (fun Q hQ => wpAny_Name (wpAny_loadName_local rfl rfl F5.ns (by rfl) hQ)) (fun C s' Q E' h => PySem.Calls.Constant_str (h _ _)) str_01' str_01 (by decide +kernel) ?_ ?_ ?_)
    · intro p hp
      have : p.1 ∈ layerOf i := by rw [← hls]; exact List.mem_map.mpr ⟨p, hp, rfl⟩
      rw [layer_length i _ this]; omega
    · have := congrArg List.length hls
      rw [List.length_map, layer_count] at this
      rw [this]
      exact Nat.le_trans (Nat.pow_le_pow_right (by decide) (show i ≤ 3 by omega)) (by decide)
    intro D2 h6 tk6 l F6 N6 hlt6 hl
    clear F5 N5
    (try k_sweep)
    have hwsl : ws.length ≤ 15 := by
      have h1 := congrArg List.length hws
      rw [List.length_map, words_count] at h1
      have : 2 ^ (i + 1) ≤ 2 ^ 4 := Nat.pow_le_pow_right (by decide) (by omega)
      omega
    have hll : l.length = 2 ^ (i + 1) := by
      have h1 := congrArg List.length hl
      rw [List.length_map, hls] at h1
      exact h1.trans (layer_count (i + 1))
    have hl4 : 2 ^ (i + 1) ≤ 2 ^ 4 := Nat.pow_le_pow_right (by decide) (by omega)
    have hl1 : 1 ≤ 2 ^ (i + 1) := Nat.one_le_two_pow
    k_steps
    refine Stop.mk ?_
    rename Fr g0 L0 _ _ => F7
    rename News g0 L0 _ _ => N7
    have hDI : @Ne Nat I D := fun q => hoff (D, _) (.tail _ (.head _)) q.symm
    have hDD : @Ne Nat D2 D := Nat.ne_of_gt (hlt6 (D, _) (.tail _ (.tail _ (.head _))))
    have hDI2 : @Ne Nat D2 I := Nat.ne_of_gt (hlt6 (I, _) (.head _))
    refine kl_extend (D := D) (n := k) (its := (strValues ws).toArray) (its2 := (strValues l).toArray) (n2 := (strValues l).length) (l := strValues (ws ++ l)) (news := (D, listOf (strValues ws).toArray k) :: (D2, listOf (strValues l).toArray (strValues l).length) :: (I, oI) :: news) (news' := (D, listOf (strValues (ws ++ l)).toArray (k + 1)) :: (D2, listOf (strValues l).toArray (strValues l).length) :: (I, oI) :: news) F7 ?sub (.tail _ (.head _)) (by rw [strValues_append]) (by simp only [strValues_length]; omega) (.head ?off) ?d ?z ?y ?_
    case sub =>
      intro p hp
      simp only [List.mem_cons] at hp
      rcases hp with rfl | rfl | rfl | hp
      · exact N7 _ (.tail _ (.tail _ (.tail _ (.head _))))
      · exact N7 _ (.head _)
      · exact N7 _ (.tail _ (.head _))
      · exact N7 _ (.tail _ (.tail _ (.tail _ (.tail _ hp))))
    case off =>
      intro p hp
      simp only [List.mem_cons] at hp
      rcases hp with rfl | rfl | hp
      · exact hDD
      · exact hDI
      · exact hD p hp
    case d =>
      intro q
      have h1 := (Bool.and_eq_true_iff.mp q).2
      simp only [List.size_toArray, strValues_length, hll] at h1
      simp only [Builtin.List.listTooLong, decide_eq_true_eq] at h1
      have h9 : sizeLine = 16777216 := sizeLine_eq
      omega
    case z => simp only [strValues_length, sizeLine_eq]; omega
    case y =>
      have h9 : sizeLine = 16777216 := sizeLine_eq
      simp only [List.size_toArray, strValues_length, hll]; omega
    intro h7 F8 N8
    clear F7 N7
    (try k_sweep)
    k_steps
    refine TurnEnd'.mk' (nx := (D2, listOf (strValues l).toArray (strValues l).length) :: (D, listOf (strValues (ws ++ l)).toArray (k + 1)) :: news) (by assumption) (by assumption) (.tail _ (.tail _ (.head _))) ?_ ?_ ⟨D, D2, k + 1, _, ws ++ l, l, rfl, rfl, rfl, hDD, hD, ?_, ?_⟩
    · intro p hp
      simp only [List.mem_cons] at hp
      rcases hp with rfl | rfl | hp
      · exact .tail _ (.head _)
      · exact .head _
      · exact .tail _ (.tail _ (.tail _ hp))
    · intro p hp
      simp only [List.mem_cons] at hp
      rcases hp with rfl | rfl | hp
      · exact hDI2
      · exact hDI.symm
      · exact hoff p (.tail _ (.tail _ hp))
    · rw [List.map_append, hws, hl, hls]; rfl
    · rw [hl, hls]; rfl
  · rintro m₁ nx h tk ⟨D, E, k, e, ws, ls, q1, q2, rfl, hED, hD, hws, hls⟩ F3 N3
    have F4 := know2 F3 q1 q2
    clear F3
    k_steps
    exact hret _ _ _ _ (by assumption) (sub_news (by assumption) fun p hp => .tail _ hp) ⟨D, ws, k, rfl, hws, rfl⟩
end Mine
end

section
open PySem PySem.W PyProof.Rows PySem.Builtin PySem.Builtin.Str
set_option Elab.async false
set_option maxRecDepth 100000
set_option maxHeartbeats 8000000
namespace Mine
/-- a step told: state, deed, message, goal -/
structure PStep where
  st : Str
  d : Int
  ms : Str
  gl : Str
structure PRow where
  a : Addr
  p : PStep
  t1 : Tok
  t2 : Tok
  t3 : Tok
  t4 : Tok
noncomputable abbrev tupP (r : PRow) : Obj := { cls := .type "tuple", data := .seq #[.str r.p.st r.t1, .int r.p.d r.t2, .str r.p.ms r.t3, .str r.p.gl r.t4] }
noncomputable def pvals (rs : List PRow) : List Value := rs.map fun r => Value.ref r.a
theorem pvals_get {es : List PRow} {i : Nat} {v : Value} (h : (pvals es)[i]? = some v) : ∃ e, es[i]? = some e ∧ v = .ref e.a := by
  unfold pvals at h
  rw [List.getElem?_map] at h
  cases q : es[i]? with
  | none => rw [q] at h; cases h
  | some e => rw [q] at h; cases h; exact ⟨e, rfl, rfl⟩
theorem pvals_length {es : List PRow} : (pvals es).length = es.length := by unfold pvals; simp
theorem pvals_snoc {es : List PRow} {r : PRow} : pvals (es ++ [r]) = pvals es ++ [Value.ref r.a] := by simp [pvals]
noncomputable def PIn (l : Led) (I : Addr) (rs : List PRow) : Prop := ∀ r ∈ rs, (r.a, tupP r) ∈ l ∧ @Ne Nat r.a I
/-- the ledger without an address -/
noncomputable def drop1 (I : Addr) (l : Led) : Led := l.filter fun p => decide (p.1 ≠ I)
theorem mem_drop1 {I : Addr} {l : Led} {p : Addr × Obj} : p ∈ drop1 I l ↔ p ∈ l ∧ p.1 ≠ I := by simp [drop1]
noncomputable def mkStep (st v : Str) : PStep := ⟨st, (stepOf v).1, (stepOf v).2.1, (stepOf v).2.2⟩
noncomputable def pickS (v : Str) (es : List (Str × Str)) : List Str := (es.filter fun e => Txt.lower e.1 == Txt.lower v).map fun e => e.2
noncomputable def ents (es : List Ent) : List (Str × Str) := es.map fun e => (e.n, e.v)
theorem picked_pickS (v : Str) (es : List Ent) : (picked v es).map (·.1) = pickS v (ents es) := by
  unfold picked pickS ents
  rw [List.filter_map, List.map_map, List.map_map]
  rfl
noncomputable def ab : List Str := [Str.ofString "a", Str.ofString "b"]
noncomputable def stepsOf (es : List (Str × Str)) : List PStep := ab.flatMap fun st => (pickS (Txt.upper st) es).map (mkStep st)
/-- what the walk asks of a rule's value -/
structure ValOK (v : Str) : Prop where
  len : v.length ≤ 1000
  pcs : ∀ p ∈ piecesAt v (v.length + 3) 0, 1 ≤ p.length ∧ p.length ≤ 300
theorem str_ab : (Str.ofString "ab").cps.toList.map (fun c => (⟨#[c]⟩ : Str)) = ab := by decide +kernel
theorem str_ab' : (Str.ofString "ab").cps.all (· < 128) = true := by decide +kernel
structure StOK (st : Str) : Prop where
  len : st.length ≤ 10
  ul : (Txt.upper st).length ≤ 300
  ll : (Txt.lower (Txt.upper st)).length ≤ 1000
  sre : sreNone codeN (Txt.lower (Txt.upper st)) = true
theorem stOK {st : Str} (h : st ∈ ab) : StOK st := by
  simp only [ab, List.mem_cons, List.not_mem_nil, or_false] at h
  rcases h with rfl | rfl
  · exact ⟨by decide +kernel, by decide +kernel, by decide +kernel, by decide +kernel⟩
  · exact ⟨by decide +kernel, by decide +kernel, by decide +kernel, by decide +kernel⟩
local macro_rules | `(tactic| walk_at "call ref") => `(tactic| (k_here; (with_reducible show wpAny _ _ (call (Value.ref 231) _ _) _ _ _); k_dflt (refine' Mine.ConK.usa (step_con _ _ _ _ ?z1 ?z2) ?_; (case z1 => assumption); (case z2 => assumption); k_whole); intro r9 nw9 h9 tk9 F9 N9 hp9; obtain ⟨D9, ta9, tb9, tc9, e9, f9⟩ := hp9; subst e9; subst f9; (try dsimp only); (try k_sweep)))
local macro_rules | `(tactic| walk_at "call ref") => `(tactic| (k_here; (with_reducible show wpAny _ _ (call (Value.ref 138) _ _) _ _ _); k_dflt (refine' Mine.ConK.usa (getall_con _ _ _ _ _ _ _ _ _ _ ?z1 ?z2 ?z3 ?z4 ?z5 ?z6 ?z7 ?z8 ?z9) ?_; (case z4 => k_mem); (case z5 => k_mem); (case z6 => k_mem); (case z7 => assumption); (case z8 => assumption); (case z9 => assumption); (case z1 => assumption); (case z2 => assumption); (case z3 => assumption); k_whole); intro r9 nw9 h9 tk9 F9 N9 hp9; obtain ⟨D9, e9, f9, l9⟩ := hp9; subst e9; subst f9; (try dsimp only); (try k_sweep)))
theorem AllLt.mem {d : Addr} : ∀ {l : Led}, AllLt d l → ∀ p ∈ l, @LT.lt Nat _ p.1 d
  | [], _, _, h => nomatch h
  | _ :: _, x, p, h => by
    rcases List.mem_cons.mp h with rfl | h
    · exact x.1
    · exact AllLt.mem x.2 p h
theorem flatMap_le {α β : Type} {f : α → List β} {B : Nat} (h : ∀ a, (f a).length ≤ B) : ∀ l : List α, (l.flatMap f).length ≤ l.length * B
  | [] => by simp
  | a :: l => by
    rw [List.flatMap_cons, List.length_append, List.length_cons, Nat.succ_mul]
    have := h a
    have := flatMap_le h l
    omega
theorem pickS_le (v : Str) (es : List (Str × Str)) : (pickS v es).length ≤ es.length := by
  unfold pickS
  rw [List.length_map]
  exact List.length_filter_le _ _
theorem ents_length (es : List Ent) : (ents es).length = es.length := by simp [ents]
/-- the least text ahead of a step -/
noncomputable def beforeOf (q : Str) (p : PStep) : Str := if p.d = 34 then p.ms ++ q else if p.d = 33 ∧ Txt.endswith q p.ms = true then Txt.slice q none (some ((q.length : Int) - (p.ms.length : Int))) else q
/-- what one step does to the table -/
noncomputable def layF (en q : Str) (es : List (Str × Str)) (p : PStep) : List (Str × Str) :=
  if p.gl = en then (if (pickS (Txt.upper p.st) es).any (fun x => finds x (beforeOf q p)) then es else es ++ [(p.st, beforeOf q p)]) else es
structure EOK (e : Str × Str) : Prop where
  nl : e.1.length ≤ 10
  vl : e.2.length ≤ 100
  want : WantOK e.2
/-- what holds between the steps: entries, the one at hand, the steps done with it -/
structure LeastRun (P : List PStep) (Iv : List (Str × Str) → Nat → Nat → Prop) : Prop where
  start : Iv [(Str.ofString "c", Str.ofString "")] 0 0
  good : ∀ es d j, Iv es d j → d ≤ es.length ∧ es.length ≤ 15 ∧ ∀ e ∈ es, EOK e
  bef : ∀ es d j e p, Iv es d j → es[d]? = some e → P[j]? = some p → p.gl = e.1 → (beforeOf e.2 p).length ≤ 100 ∧ (((pickS (Txt.upper p.st) es).any fun x => finds x (beforeOf e.2 p)) = false → GoodV (beforeOf e.2 p))
  step : ∀ es d j e p, Iv es d j → es[d]? = some e → P[j]? = some p → Iv (layF e.1 e.2 es p) d (j + 1)
  next : ∀ es d, Iv es d P.length → d < es.length → Iv es (d + 1) 0
theorem goodN_c : GoodN (Str.ofString "c") := ⟨by decide +kernel, by decide +kernel⟩
theorem goodV_0 : GoodV (Str.ofString "") := ⟨by decide +kernel, by decide +kernel⟩
theorem goodN_ab {st : Str} (h : st ∈ ab) : GoodN st := by
  simp only [ab, List.mem_cons, List.not_mem_nil, or_false] at h
  rcases h with rfl | rfl
  · exact ⟨by decide +kernel, by decide +kernel⟩
  · exact ⟨by decide +kernel, by decide +kernel⟩
theorem stepsOf_st {es : List (Str × Str)} {p : PStep} (h : p ∈ stepsOf es) : p.st ∈ ab := by
  obtain ⟨st, hst, hp⟩ := List.mem_flatMap.mp h
  obtain ⟨v, _, rfl⟩ := List.mem_map.mp hp
  exact hst
theorem ents_snoc {es : List Ent} {e : Ent} : ents (es ++ [e]) = ents es ++ [(e.n, e.v)] := by simp [ents]
theorem hvals_snoc {es : List Ent} {e : Ent} : hvals (es ++ [e]) = hvals es ++ [Value.ref e.a] := by simp [hvals]
theorem item_listT {prog : Program} {w : World} {A : Around} {E : Value → Shared → Prop} {s : Shared} {h₀ : Heap} {L l : Addr} {news : Led} {vs : List Value} {k : Nat} {i : Int} {u : Tok} {x : Value} {value slice : PySem.Expr} {Q : Value → Shared → Prop} (N : News h₀ L s.heap news) (hm : (l, listOf vs.toArray k) ∈ news)
    (h0 : 0 ≤ i) (hf : i < 2 ^ 63) (hx : vs[i.toNat]? = some x) (h : Q x s)
    (hs : subscripted slice false (.ref l) (.int i u) = operate [.ref l, .int i u] (getItem (.ref l) (.int i u)) := by with_unfolding_all rfl) :
    wpAny (model prog w) A (subscriptTail value slice (.ref l) (.int i u)) Q E s :=
  have hl : s.heap.IsList l vs.toArray := ⟨_, (N _ hm).1, rfl, k, rfl⟩
  tail_any hl.typeIs slot_list_getitem.lookup (wpAny_getItem_list (x := x) hl h0 hf (by simpa using hx) h) hs
theorem any_picked (v : Str) (es : List Ent) (f : Str → Bool) : ((picked v es).any fun p => f p.1) = (pickS v (ents es)).any f := by
  rw [← picked_pickS, List.any_map]; rfl
theorem layF_ne {en q : Str} {es : List (Str × Str)} {p : PStep} (h : ¬ p.gl = en) : layF en q es p = es := if_neg h
theorem layF_held {en q : Str} {es : List (Str × Str)} {p : PStep} (h : p.gl = en) (h2 : ((pickS (Txt.upper p.st) es).any fun x => finds x (beforeOf q p)) = true) : layF en q es p = es := by
  rw [layF, if_pos h, if_pos h2]
theorem layF_add {en q : Str} {es : List (Str × Str)} {p : PStep} (h : p.gl = en) (h2 : ((pickS (Txt.upper p.st) es).any fun x => finds x (beforeOf q p)) = false) : layF en q es p = es ++ [(p.st, beforeOf q p)] := by
  rw [layF, if_pos h, if_neg (by rw [h2]; decide)]
theorem tupP_of {h₀ h : Heap} {L T : Addr} {st ms gl : Str} {d : Int} {t1 t2 t3 t4 : Tok} {rest : Led} (N : News h₀ L h ((T, { cls := .type "tuple", data := .seq #[.str st t1, .int d t2, .str ms t3, .str gl t4] }) :: rest)) :
    ∃ r : PRow, r.a = T ∧ r.p = ⟨st, d, ms, gl⟩ ∧ News h₀ L h ((T, tupP r) :: rest) := ⟨⟨T, ⟨st, d, ms, gl⟩, t1, t2, t3, t4⟩, rfl, rfl, N⟩
local macro_rules | `(tactic| walk_at "call ref") => `(tactic| (k_here; (with_reducible show wpAny _ _ (call (Value.ref 199) _ _) _ _ _); k_dflt (refine' Mine.ConK.usa (hdr_con _ _ _ ?z1) ?_; (case z1 => k_mem); k_whole); intro r9 nw9 h9 tk9 F9 N9 hp9; obtain ⟨x9, dx9, tk8, e9, f9, g9, i9⟩ := hp9; subst e9; subst i9; (try k_lt f9); (try dsimp only); (try k_sweep)))
local macro_rules | `(tactic| walk_at "call ref") => `(tactic| (k_here; (with_reducible show wpAny _ _ (call (Value.ref 163) _ _) _ _ _); k_dflt (refine' Mine.ConK.usa (items_con _ _ _ _ _ _ _ _ ?z1 ?z2 ?z3 ?z4) ?_; (case z2 => k_mem); (case z3 => k_mem); (case z4 => k_mem); (case z1 => (simp only [Mine.hvals_length]; omega)); k_whole); intro r9 nw9 h9 tk9 F9 N9 hp9; obtain ⟨D9, e9, f9⟩ := hp9; subst e9; subst f9; (try dsimp only); (try k_sweep)))
local macro_rules | `(tactic| walk_at "call ref") => `(tactic| (k_here; (with_reducible show wpAny _ _ (call (Value.ref 238) _ _) _ _ _); k_dflt (refine' Mine.ConK.usa (held_con _ _ _ _ _ _ _ ?z1 ?z2 ?z3) ?_; (case z2 => k_mem); (case z1 => omega); (case z3 => assumption); k_whole); intro r9 nw9 h9 tk9 F9 N9 hp9; obtain ⟨e9, f9⟩ := hp9; subst e9; subst f9; (try dsimp only); (try k_sweep)))
local macro_rules | `(tactic| walk_at "call ref") => `(tactic| ((with_reducible show wpAny _ _ (call (Value.ref 196) _ _) _ _ _); refine Mine.stopAt ?_))
local macro_rules | `(tactic| walk_at "subscriptTail") => `(tactic| ((with_reducible show wpAny _ _ (subscriptTail _ _ (Value.ref _) (Value.int _ _)) _ _ _); refine Mine.stopAt ?_))
local macro_rules | `(tactic| walk_at "exec If") => `(tactic| (refine Mine.stopAt ?_))
local macro_rules | `(tactic| walk_at "call builtin:list.append") => `(tactic| (refine Mine.stopAt ?_))
noncomputable def JL1 (news : Led) (XR : Addr) (esR : List Ent) (i : Nat) (m : Str → Option Value) (nx : Led) : Prop := ∃ (S : Addr) (ps : List PRow) (k : Nat) (tl : Led), m (Str.ofString "rules") = some (.ref XR) ∧ m (Str.ofString "steps") = some (.ref S) ∧ nx = (S, listOf (pvals ps).toArray k) :: tl ∧ (∀ q ∈ tl, q.1 ≠ S) ∧ (∀ q ∈ news, q ∈ tl) ∧ (∀ r ∈ ps, (r.a, tupP r) ∈ tl) ∧ ps.map (·.p) = (ab.take i).flatMap fun st => (pickS (Txt.upper st) (ents esR)).map (mkStep st)
noncomputable def JL2 (XR : Addr) (esR : List Ent) (st : Str) (tst : Tok) (S I D9 : Addr) (oI : Obj) (ps : List PRow) (tl : Led) (j : Nat) (m : Str → Option Value) (nx : Led) : Prop := ∃ (ps' : List PRow) (k : Nat) (tl' : Led), m (Str.ofString "rules") = some (.ref XR) ∧ m (Str.ofString "steps") = some (.ref S) ∧ m (Str.ofString "state") = some (.str st tst) ∧ nx = (S, listOf (pvals ps').toArray k) :: tl' ∧ (∀ q ∈ tl', q.1 ≠ S) ∧ (I, oI) ∈ tl' ∧ (D9, LCg.lst (strValues (picked (Txt.upper st) esR))) ∈ tl' ∧ (∀ q ∈ tl, q ∈ tl') ∧ PIn tl' I ps' ∧ ps'.map (·.p) = ps.map (·.p) ++ ((pickS (Txt.upper st) (ents esR)).take j).map (mkStep st)
noncomputable def JL3 (Y S hl : Addr) (base : Led) (Iv : List (Str × Str) → Nat → Nat → Prop) (z : Nat) (m : Str → Option Value) (nx : Led) : Prop := ∃ (es : List Ent) (d k : Nat) (tl2 : Led) (td : Tok), m (Str.ofString "least") = some (.ref Y) ∧ m (Str.ofString "steps") = some (.ref S) ∧ m (Str.ofString "done") = some (.int (d : Int) td) ∧ nx = (hl, listOf (hvals es).toArray k) :: tl2 ∧ (∀ q ∈ tl2, q.1 ≠ hl) ∧ (∀ q ∈ base, q ∈ tl2) ∧ EntsIn tl2 es ∧ Iv (ents es) d 0 ∧ z = 20 - d
noncomputable def JL4 (Y S hl : Addr) (base : Led) (Iv : List (Str × Str) → Nat → Nat → Prop) (e : Ent) (d : Nat) (j : Nat) (m : Str → Option Value) (nx : Led) : Prop := ∃ (es : List Ent) (k : Nat) (tl2 : Led), m (Str.ofString "least") = some (.ref Y) ∧ m (Str.ofString "steps") = some (.ref S) ∧ (∃ td, m (Str.ofString "done") = some (.int ((d : Int) + 1) td)) ∧ m (Str.ofString "end") = some (.str e.n e.tn) ∧ m (Str.ofString "queue") = some (.str e.v e.tv) ∧ nx = (hl, listOf (hvals es).toArray k) :: tl2 ∧ (∀ q ∈ tl2, q.1 ≠ hl) ∧ (∀ q ∈ base, q ∈ tl2) ∧ EntsIn tl2 es ∧ (ents es)[d]? = some (e.n, e.v) ∧ Iv (ents es) d j
theorem least_con (w : World) (news : Led) (XR dxR hlR : Addr) (esR : List Ent) (k : Nat) (tk0 : Tok)
    (hR1 : (XR, instObj 199 dxR) ∈ news) (hR2 : (dxR, dictOf [⟨PyData.keyHash w.params (Str.ofString "_headers"), .str (Str.ofString "_headers") tk0, .ref hlR⟩] 1) ∈ news) (hR3 : (hlR, listOf (hvals esR).toArray k) ∈ news)
    (he : EntsIn news esR) (hn : ∀ e ∈ esR, e.n.length ≤ 300) (hsz : esR.length ≤ 1000) (hvok : ∀ e ∈ esR, ValOK e.v)
    (hpok : ∀ p ∈ stepsOf (ents esR), p.ms.length ≤ 10 ∧ p.gl.length ≤ 10) (Iv : List (Str × Str) → Nat → Nat → Prop) (HI : LeastRun (stepsOf (ents esR)) Iv) :
   Con 20 w 245 [.ref XR] news (fun r news' => ∃ (Y dy hl : Addr) (es : List Ent) (k d : Nat) (tk : Tok) (tl : Led), r = .ref Y ∧ news' = (hl, listOf (hvals es).toArray k) :: tl ∧ (Y, instObj 199 dy) ∈ tl ∧ (dy, dictOf [⟨PyData.keyHash w.params (Str.ofString "_headers"), .str (Str.ofString "_headers") tk, .ref hl⟩] 1) ∈ tl ∧
     EntsIn tl es ∧ (∀ q ∈ news, q ∈ tl) ∧ Iv (ents es) d 0 ∧ es.length ≤ d) := by
  w_top off; (have hFill : Mine.fillT PySem.Challenge.rw_re0169_01 Mine.head.heap_1_39 := (by k_fill; exact ⟨rfl, rfl⟩); clear hFill)
  (try unfold Mine.Con)
  unfold Mine.ConK
  intro mean mg mb dp un gd cn cs a ccd cl outer A₀ base h₀ L m s Q E B F X N T hk hdp hun hret
  refine wpAny_call ?_
  k_dflt (refine' code_def (binds := [(Str.ofString "rules", .ref XR)]) ?k1 ?k2 ?k3 ?k4 ?k5 ?kA ?kF ?kK ?k6 ?k7 ?k8 ?k9 ?kB ?_ ?c2 ?c3 ?c4 ?c5; (case kA => exact rfl); (case kF => exact rfl); (case kK => assumption); (case k1 => k_asm); (case k2 => k_asm); (case k3 => k_asm); (case k4 => k_asm); (case k5 => k_asm); (case k6 => k_is); (case k7 => k_is); (case k8 => ktr_room); (case k9 => first | exact BindsTo.of_eq rfl | exact binds_K (by k_in) rfl (by k_is) rfl rfl rfl); (case c5 => decide); (case kB => exact locs rfl); (case c2 => exact rfl); (case c3 => exact rfl); (case c4 => exact rfl); k_whole; intro g0 L0 h1 FG0 F1 N1 B1 X1 T1; (try dsimp only); (try k_fold))
  k_steps
  refine Stop.mk ?_
  rename Fr g0 L0 _ _ => F2
  rename News g0 L0 _ _ => N2
  rename ∀ q ∈ news, _ < _ => hlt
  refine For_turns F2 ?_
  k_steps
  refine Stop.mk ?_
  refine turns_str (ys := ab) (JL1 news XR esR) rfl F2 N2 (fun _ h => h) ⟨_, [], _, news, rfl, rfl, rfl, (fun q hq => Nat.ne_of_lt (hlt q hq)), (fun _ h => h), (fun _ h => nomatch h), rfl⟩ str_ab' str_ab ?_ ?_
  · rintro I hI i st tst m₁ nx h tk oI hst ⟨S, ps, k1, tl, q1, q2, rfl, hS, hsub, hps, hpm⟩ hoff F3 N3
    have F4 := know2 F3 q1 q2
    clear F3
    have hstm := List.mem_of_getElem? hst
    obtain ⟨hsl, hul, hll, hsre⟩ := stOK hstm
    have h1' := hsub _ hR1
    have h2' := hsub _ hR2
    have h3' := hsub _ hR3
    have he' : EntsIn ((I, oI) :: (S, listOf (pvals ps).toArray k1) :: tl) esR := he.mono fun p hp => .tail _ (.tail _ (hsub p hp))
    k_steps
    refine Stop.mk ?_
    rename Fr g0 L0 _ _ => F5
    rename News g0 L0 _ _ => N5
    refine For_turns F5 ?_
    k_steps
    refine Stop.mk ?_
    rename Fr g0 L0 _ _ => F5
    rename News g0 L0 _ _ => N5
    rename Addr => D9
    have hD9 : ∀ p ∈ (I, oI) :: (S, listOf (pvals ps).toArray k1) :: tl, p.1 ≠ D9 := by assumption
    have hIS : @Ne Nat I S := fun q => hoff (S, _) (.head _) q.symm
    have hD9S : @Ne Nat D9 S := fun q => hD9 (S, _) (.tail _ (.head _)) q.symm
    refine turns_list (vs := strValues (picked (Txt.upper st) esR)) (k := (strValues (picked (Txt.upper st) esR)).length) (nx₀ := (S, listOf (pvals ps).toArray k1) :: (D9, LCg.lst (strValues (picked (Txt.upper st) esR))) :: (I, oI) :: tl)
      (JL2 XR esR st tst S I D9 oI ps tl) rfl F5 N5 ?sub ⟨ps, k1, (D9, LCg.lst (strValues (picked (Txt.upper st) esR))) :: (I, oI) :: tl, rfl, rfl, rfl, rfl, ?o1, .tail _ (.head _), .head _, (fun q hq => .tail _ (.tail _ hq)), ?o2, by simp⟩ ?_ ?_ ?_
    case sub =>
      intro p hp
      simp only [List.mem_cons] at hp ⊢
      rcases hp with rfl | rfl | rfl | hp
      · exact .inr (.inr (.inl rfl))
      · exact .inl rfl
      · exact .inr (.inl rfl)
      · exact .inr (.inr (.inr hp))
    case o1 =>
      intro q hq
      simp only [List.mem_cons] at hq
      rcases hq with rfl | rfl | hq
      · exact hD9S
      · exact hIS
      · exact hS q hq
    case o2 =>
      intro r hr
      exact ⟨.tail _ (.tail _ (hps r hr)), hoff _ (.tail _ (hps r hr))⟩
    · rintro j m nx ⟨ps', k', tl', _, _, _, rfl, _, _, h, _⟩
      exact .tail _ h
    · clear F5 N5 F4 N3 q1 q2
      rintro I2 hI2 j v m₂ nx h tk oI2 hv ⟨ps', k', tl', q1, q2, q3, rfl, hS', hmI, hmD, hsub', hps', hpm'⟩ hoff2 F3 N3
      have F4 := know3 F3 q1 q2 q3
      clear F3
      obtain ⟨x, tx, rfl, hx⟩ := strValues_get hv
      rw [picked_pickS] at hx
      have hxm := List.mem_of_getElem? hx
      obtain ⟨hx1, hx2⟩ : ValOK x := by
        obtain ⟨e, he, rfl⟩ := List.mem_map.mp hxm
        obtain ⟨e2, he2, rfl⟩ := List.mem_map.mp (List.mem_filter.mp he).1
        exact hvok e2 he2
      have hps20 : ps'.length ≤ 10000 := by
        have h1 := congrArg List.length hpm'
        have h2 := congrArg List.length hpm
        rw [List.length_map, List.length_append, List.length_map, List.length_map, List.length_take] at h1
        rw [List.length_map] at h2
        have h3 := flatMap_le (f := fun st => (pickS (Txt.upper st) (ents esR)).map (mkStep st)) (B := 1000) (fun st => by rw [List.length_map]; exact Nat.le_trans (pickS_le _ _) (by rw [ents_length]; exact hsz)) (ab.take i)
        have h4 : (ab.take i).length ≤ 2 := by rw [List.length_take]; exact Nat.min_le_right _ _
        have h5 := pickS_le (Txt.upper st) (ents esR)
        rw [ents_length] at h5
        omega
      k_steps
      refine Stop.mk ?_
      rename Fr g0 L0 _ _ => F6
      rename News g0 L0 _ _ => N6
      rename Addr => T
      obtain ⟨r9, hra, hrp, N6⟩ := tupP_of N6
      have hTl : @LT.lt Nat _ I2 T ∧ @LT.lt Nat _ S T ∧ AllLt T tl' := by
        rename _ ∧ _ ∧ _ ∧ AllLt T tl' => q
        exact q.2
      obtain ⟨hTI2, hTS, hTl⟩ := hTl
      have hTI : @LT.lt Nat _ I T := AllLt.mem hTl _ hmI
      have hSI2 : @Ne Nat S I2 := hoff2 (S, _) (.head _)
      refine append_K (D := S) (n := k') (its := (pvals ps').toArray) (news := (S, listOf (pvals ps').toArray k') :: (T, tupP r9) :: (I2, oI2) :: tl') F6 ?sub (.head ?off) ?_ ?sz
      case sub =>
        intro p hp
        simp only [List.mem_cons] at hp
        rcases hp with rfl | rfl | rfl | hp
        · exact N6 _ (.tail _ (.tail _ (.tail _ (.head _))))
        · exact N6 _ (.head _)
        · exact N6 _ (.tail _ (.tail _ (.head _)))
        · exact N6 _ (.tail _ (.tail _ (.tail _ (.tail _ hp))))
      case off =>
        intro p hp
        simp only [List.mem_cons] at hp
        rcases hp with rfl | rfl | hp
        · exact Nat.ne_of_gt hTS
        · exact hSI2.symm
        · exact hS' p hp
      case sz =>
        have h9 : sizeLine = 16777216 := sizeLine_eq
        rw [List.size_toArray, pvals_length]; omega
      intro h7 F7 N7
      clear F6 N6
      (try k_sweep)
      k_steps
      show TurnEnd' _ _ _ _ _ _ _
      refine TurnEnd'.mk' (nx := (S, listOf ((pvals ps').toArray.push (.ref T)) (k' + 1)) :: (T, tupP r9) :: tl') (by assumption) (by assumption) (.tail _ (.tail _ (.head _))) ?_ ?_ ⟨ps' ++ [r9], k' + 1, (T, tupP r9) :: tl', rfl, rfl, rfl, ?_, ?_, .tail _ hmI, .tail _ hmD, (fun q hq => .tail _ (hsub' q hq)), ?_, ?_⟩
      · intro p hp
        simp only [List.mem_cons] at hp
        rcases hp with rfl | rfl | hp
        · exact .head _
        · exact .tail _ (.head _)
        · exact .tail _ (.tail _ (.tail _ hp))
      · intro p hp
        simp only [List.mem_cons] at hp
        rcases hp with rfl | rfl | hp
        · exact hSI2
        · exact Nat.ne_of_gt hTI2
        · exact hoff2 p (.tail _ hp)
      · rw [pvals_snoc, List.push_toArray, hra]
      · intro p hp
        rcases List.mem_cons.mp hp with rfl | hp
        · exact Nat.ne_of_gt hTS
        · exact hS' p hp
      · intro r hr
        rcases List.mem_append.mp hr with hr | hr
        · exact ⟨.tail _ (hps' r hr).1, (hps' r hr).2⟩
        · rw [List.mem_singleton.mp hr]
          rw [hra]
          exact ⟨.head _, Nat.ne_of_gt hTI⟩
      · rw [List.map_append, hpm', take_snoc hx, List.map_append, List.append_assoc, List.map_singleton, hrp]; rfl
    · clear F5 N5 F4 N3 q1 q2
      rintro m₂ nx h tk ⟨ps', k', tl', q1, q2, q3, rfl, hS', hmI, hmD, hsub', hps', hpm'⟩ F3 N3
      have F4 := know3 F3 q1 q2 q3
      clear F3
      k_steps
      show TurnEnd' _ _ _ _ _ _ _
      refine TurnEnd'.mk' (nx := (S, listOf (pvals ps').toArray k') :: drop1 I tl') (by assumption) (by assumption) (.tail _ hmI) ?_ ?_ ⟨S, ps', k', drop1 I tl', rfl, rfl, rfl, (fun q hq => hS' q (mem_drop1.mp hq).1), (fun q hq => mem_drop1.mpr ⟨hsub' q (hsub q hq), hoff q (.tail _ (hsub q hq))⟩), (fun r hr => mem_drop1.mpr (hps' r hr)), ?_⟩
      · intro p hp
        rcases List.mem_cons.mp hp with rfl | hp
        · exact .head _
        · exact .tail _ (mem_drop1.mp hp).1
      · intro p hp
        rcases List.mem_cons.mp hp with rfl | hp
        · exact hIS.symm
        · exact (mem_drop1.mp hp).2
      · rw [hpm', hpm, take_snoc hst, List.flatMap_append, strValues_length]
        have h9 : (pickS (Txt.upper st) (ents esR)).length ≤ (picked (Txt.upper st) esR).length := by rw [← picked_pickS, List.length_map]; exact Nat.le_refl _
        rw [List.take_of_length_le h9]
        simp
  · clear F2 N2
    rintro m₁ nx h tk ⟨S, ps, k1, tl, q1, q2, rfl, hS, hsub, hps, hpm⟩ F3 N3
    have F4 := know2 F3 q1 q2
    clear F3
    k_steps
    have hpm2 : ps.map (·.p) = stepsOf (ents esR) := hpm
    refine Stop.mk ?_
    rename Fr g0 L0 _ _ => F5
    rename News g0 L0 _ _ => N5
    rename_i Y dy tk8 g9 f9 hh8
    rename_i hl hh0 FX NX l1 hh9 tk9
    clear FX NX
    have hg9 : @LT.lt Nat _ dy Y := g9
    have hf9 : @LT.lt Nat _ hl dy := f9.1
    have hl1 : @LT.lt Nat _ S hl := l1.1
    have htl : ∀ q ∈ tl, q.1 ≠ hl := fun q hq => Nat.ne_of_lt (AllLt.mem l1.2 q hq)
    k_dflt (refine' Mine.ConK.use (add_con w ((hl, listOf ([] : List Value).toArray 0) :: (Y, instObj 199 dy) :: (dy, dictOf [⟨PyData.keyHash w.params (Str.ofString "_headers"), .str (Str.ofString "_headers") tk8, .ref hl⟩] 1) :: (S, listOf (pvals ps).toArray k1) :: tl) (fun o => (hl, o) :: (Y, instObj 199 dy) :: (dy, dictOf [⟨PyData.keyHash w.params (Str.ofString "_headers"), .str (Str.ofString "_headers") tk8, .ref hl⟩] 1) :: (S, listOf (pvals ps).toArray k1) :: tl) Y dy hl [] 0 _ _ _ _ tk8 goodN_c.1 goodV_0.1 goodN_c.2 goodV_0.2 (.tail _ (.head _)) (.tail _ (.tail _ (.head _))) (.head _) (.head ?off) (Nat.zero_le _)) ?kB ?kF ?kX ?kN ?kT ?kK ?kd ?ku ?_; (case kB => k_asm); (case kF => k_asm); (case kX => k_asm); (case kT => k_asm); (case kK => first | exact rfl | assumption); (case kd => ktr_room); (case ku => ktr_units))
    case off =>
      intro q hq
      simp only [List.mem_cons] at hq
      rcases hq with rfl | rfl | rfl | hq
      · refine neN ?_; dsimp only; omega
      · refine neN ?_; dsimp only; omega
      · refine neN ?_; dsimp only; omega
      · exact htl q hq
    case kN =>
      refine sub_news N5 fun q hq => ?_
      simp only [List.mem_cons] at hq ⊢
      rcases hq with rfl | rfl | rfl | rfl | hq
      · exact .inr (.inr (.inl rfl))
      · exact .inl rfl
      · exact .inr (.inl rfl)
      · exact .inr (.inr (.inr (.inl rfl)))
      · exact .inr (.inr (.inr (.inr hq)))
    intro r9 nw9 h9 tk9' F9 N9 hp9
    obtain ⟨e9, T9, t9, l9, f9'⟩ := hp9
    subst e9; subst f9'
    clear F5 N5
    (try dsimp only at N9); (try dsimp only)
    k_steps
    refine Stop.mk ?_
    rename Fr g0 L0 _ _ => F5
    rename News g0 L0 _ _ => N5
    obtain ⟨base, hbase⟩ : ∃ base : Led, base = (Y, instObj 199 dy) :: (dy, dictOf [⟨PyData.keyHash w.params (Str.ofString "_headers"), .str (Str.ofString "_headers") tk8, .ref hl⟩] 1) :: (S, listOf (pvals ps).toArray k1) :: tl := ⟨_, rfl⟩
    have N6 : News g0 L0 _ ((hl, listOf (hvals [⟨T9, Str.ofString "c", tk, Str.ofString "", t9⟩]).toArray 1) :: (T9, tup2 (Str.ofString "c") tk (Str.ofString "") t9) :: base) := sub_news N5 fun q hq => by
      rw [hbase] at hq
      rcases List.mem_cons.mp hq with rfl | hq
      · exact .tail _ (.head _)
      · rcases List.mem_cons.mp hq with rfl | hq
        · exact .head _
        · exact .tail _ (.tail _ hq)
    have hoffb : ∀ q ∈ base, q.1 ≠ hl := fun q hq => by
      rw [hbase] at hq
      simp only [List.mem_cons] at hq
      rcases hq with rfl | rfl | rfl | hq
      · refine neN ?_; dsimp only; omega
      · refine neN ?_; dsimp only; omega
      · refine neN ?_; dsimp only; omega
      · exact htl q hq
    have hTh : @LT.lt Nat _ hl T9 := l9 _ (.head _)
    have hbY : (Y, instObj 199 dy) ∈ base := by rw [hbase]; exact .head _
    have hbd : (dy, dictOf [⟨PyData.keyHash w.params (Str.ofString "_headers"), .str (Str.ofString "_headers") tk8, .ref hl⟩] 1) ∈ base := by rw [hbase]; exact .tail _ (.head _)
    have hbS : (S, listOf (pvals ps).toArray k1) ∈ base := by rw [hbase]; exact .tail _ (.tail _ (.head _))
    have hbt : ∀ q ∈ tl, q ∈ base := fun q hq => by rw [hbase]; exact .tail _ (.tail _ (.tail _ hq))
    clear hbase N5
    refine while_inv (JL3 Y S hl base Iv) 20 F5 N6 ⟨[⟨T9, Str.ofString "c", tk, Str.ofString "", t9⟩], 0, 1, (T9, tup2 (Str.ofString "c") tk (Str.ofString "") t9) :: base, _, rfl, rfl, rfl, rfl, ?i1, (fun q hq => .tail _ hq), ?i3, HI.start, rfl⟩ ?_
    case i1 =>
      intro q hq
      rcases List.mem_cons.mp hq with rfl | hq
      · exact Nat.ne_of_gt hTh
      · exact hoffb q hq
    case i3 =>
      intro e he
      rw [List.mem_singleton.mp he]
      exact .head _
    clear F5 N6
    rintro z m₂ nx h tk ⟨es, d, k2, tl2, td, q1, q2, q3, rfl, hoffh, hbase, hei, hIv, hz⟩ F3 N3
    have F4 := know3 F3 q1 q2 q3
    clear F3
    obtain ⟨hdl, hes15, heok⟩ := HI.good _ _ _ hIv
    rw [ents_length] at hdl hes15
    have hY2 := hbase _ hbY
    have hd2 := hbase _ hbd
    have hS2 := hbase _ hbS
    k_steps
    · rename (d : Int) < _ => hdlt
      have hdlt' : d < es.length := by omega
      refine Stop.mk ?_
      rename Fr g0 L0 _ _ => F5
      rename News g0 L0 _ _ => N5
      obtain ⟨e, he⟩ : ∃ e, es[d]? = some e := ⟨_, List.getElem?_eq_getElem hdlt'⟩
      have hem := List.mem_of_getElem? he
      have heL := hei e hem
      have heg : (ents es)[d]? = some (e.n, e.v) := by unfold ents; rw [List.getElem?_map, he]; rfl
      obtain ⟨hen, hev, hew⟩ := heok (e.n, e.v) (List.mem_of_getElem? heg)
      dsimp only at hen hev hew
      k_dflt (refine' item_listT N5 (.head _) (by omega) (by omega) (x := .ref e.a) ?hx ?_ (by with_unfolding_all rfl))
      case hx =>
        rw [Int.toNat_natCast]; unfold hvals; rw [List.getElem?_map, he]; rfl
      k_steps
      refine Stop.mk ?_
      rename Fr g0 L0 _ _ => F5
      rename News g0 L0 _ _ => N5
      refine For_turns F5 ?_
      k_steps
      refine Stop.mk ?_
      rename Fr g0 L0 _ _ => F5
      rename News g0 L0 _ _ => N5
      refine turns_list (vs := pvals ps) (k := k1) (nx₀ := (hl, listOf (hvals es).toArray k2) :: tl2) (JL4 Y S hl base Iv e d) rfl F5 N5 (fun q hq => .tail _ (.tail _ hq)) ⟨es, k2, tl2, rfl, rfl, ⟨_, rfl⟩, rfl, rfl, rfl, hoffh, hbase, hei, heg, hIv⟩ ?_ ?_ ?_
      · rintro j m nx ⟨es, k, tl2, _, _, _, _, _, rfl, _, hb, _⟩
        exact .tail _ (hb _ hbS)
      · clear F5 N5 F4 N3 q1 q2 q3 hoffh hbase hei heg hIv hY2 hd2 hS2 heok hes15 hdl he hem heL hdlt hdlt' hz
        rintro I hI j v m₃ nx h tk oI hv ⟨es, k2, tl2, q1, q2, ⟨td, q3⟩, q4, q5, rfl, hoffh, hbase, hei, heg, hIv⟩ hoff F3 N3
        have F4 := know5 F3 q1 q2 q3 q4 q5
        clear F3
        obtain ⟨r, hr, rfl⟩ := pvals_get hv
        have hrm := List.mem_of_getElem? hr
        have hrt := hbase _ (hbt _ (hps r hrm))
        have hPj : (stepsOf (ents esR))[j]? = some r.p := by rw [← hpm2, List.getElem?_map, hr]; rfl
        have hPm := List.mem_of_getElem? hPj
        have hst := stepsOf_st hPm
        obtain ⟨hms, hgl⟩ := hpok _ hPm
        obtain ⟨hsl, hul, hll, hsre⟩ := stOK hst
        obtain ⟨hdl, hes15, heok⟩ := HI.good _ _ _ hIv
        have hbf := HI.bef _ _ _ _ _ hIv heg hPj
        have hIv' := HI.step _ _ _ _ _ hIv heg hPj
        dsimp only at hbf hIv'
        obtain ⟨ra, ⟨rst, rd, rms, rgl⟩, t1, t2, t3, t4⟩ := r
        dsimp only at *
        have hY2 := hbase _ hbY
        have hd2 := hbase _ hbd
        k_steps
        refine Stop.mk ?_
        refine wpAny_If ?_
        k_steps
        · rename (_ == _) = true => hge
          have hge2 : rgl = e.n := by simpa using hge
          obtain ⟨hbl, hbg⟩ := hbf hge2
          refine Stop.mk ?_
          rename Fr g0 L0 _ _ => F5
          rename News g0 L0 _ _ => N5
          refine join_store (Str.ofString "before") (beforeOf e.v ⟨rst, rd, rms, rgl⟩) F5 N5 ?_ ?_
          · refine wpAny_If ?_
            k_steps
            · rename _ = (34 : Int) => h34
              have h34' : rd = 34 := h34
              refine StoreAt.mk' (by assumption) (by assumption) rfl ?_ (fun y hy => by simp [hy])
              rw [beforeOf, if_pos h34']
            · rename _ ≠ (34 : Int) => h34
              have h34' : ¬ rd = 34 := h34
              refine Stop.mk ?_
              refine wpAny_If ?_
              k_steps
              · rename _ = (33 : Int) => h33
                have h33' : rd = 33 := h33
                rename Txt.endswith _ _ = true => hew
                have hew' : Txt.endswith e.v rms = true := hew
                refine StoreAt.mk' (by assumption) (by assumption) rfl ?_ (fun y hy => by simp [hy])
                rw [beforeOf, if_neg h34', if_pos ⟨h33', hew'⟩]
              · rename Txt.endswith _ _ = false => hew
                have hew' : Txt.endswith e.v rms = false := hew
                refine StoreAt.mk' (by assumption) (by assumption) rfl ?_ (fun y hy => by simp [hy])
                unfold beforeOf
                rw [if_neg h34', if_neg (fun q => by rw [hew'] at q; cases q.2)]
              · rename _ ≠ (33 : Int) => h33
                have h33' : ¬ rd = 33 := h33
                refine StoreAt.mk' (by assumption) (by assumption) rfl ?_ (fun y hy => by simp [hy])
                unfold beforeOf
                rw [if_neg h34', if_neg (fun q => h33' q.1)]
          intro h7 tk7 t7 F7 N7
          clear F5 N5
          (try k_sweep)
          have he2 : EntsIn ((I, oI) :: (hl, listOf (hvals es).toArray k2) :: tl2) es := hei.mono fun p hp => .tail _ (.tail _ hp)
          have hn3 : ∀ e ∈ es, e.n.length ≤ 300 := fun e he => Nat.le_trans (heok _ (List.mem_map.mpr ⟨e, he, rfl⟩)).nl (by decide)
          have hes1000 : es.length ≤ 1000 := by rw [ents_length] at hes15; omega
          have hwant : ∀ p ∈ picked (Txt.upper rst) es, WantOK p.1 := fun p hp => by
            obtain ⟨e, he, rfl⟩ := List.mem_map.mp hp
            exact (heok _ (List.mem_map.mpr ⟨e, (List.mem_filter.mp he).1, rfl⟩)).want
          k_steps
          refine Stop.mk ?_
          refine wpAny_If ?_
          k_steps
          · rename List.any _ _ = true => hany
            rw [any_picked (Txt.upper rst) es (fun x => finds x (beforeOf e.v ⟨rst, rd, rms, rgl⟩))] at hany
            rw [layF_held (en := e.n) (q := e.v) (p := ⟨rst, rd, rms, rgl⟩) hge2 hany] at hIv'
            show TurnEnd' _ _ _ _ _ _ _
            refine TurnEnd'.mk' (nx := (hl, listOf (hvals es).toArray k2) :: tl2) (by assumption) (by assumption) (.tail _ (.head _)) (fun q hq => .tail _ (.tail _ hq)) hoff ⟨es, k2, tl2, rfl, rfl, ⟨_, rfl⟩, rfl, rfl, rfl, hoffh, hbase, hei, heg, hIv'⟩
          · rename List.any _ _ = false => hany
            rw [any_picked (Txt.upper rst) es (fun x => finds x (beforeOf e.v ⟨rst, rd, rms, rgl⟩))] at hany
            rw [layF_add (en := e.n) (q := e.v) (p := ⟨rst, rd, rms, rgl⟩) hge2 hany] at hIv'
            dsimp only at hIv'
            have hbg := hbg hany
            refine Stop.mk ?_
            rename Fr g0 L0 _ _ => F5
            rename News g0 L0 _ _ => N5
            have hgst := goodN_ab hst
            have hIh : @Ne Nat hl I := hoff _ (.head _)
            k_dflt (refine' Mine.ConK.use (add_con w ((hl, listOf (hvals es).toArray k2) :: (I, oI) :: tl2) (fun o => (hl, o) :: (I, oI) :: tl2) Y dy hl (hvals es) k2 _ _ _ _ tk8 hgst.1 hbg.1 hgst.2 hbg.2 (.tail _ (.tail _ hY2)) (.tail _ (.tail _ hd2)) (.head _) (.head ?off) (by rw [hvals_length]; exact hes1000)) ?kB ?kF ?kX ?kN ?kT ?kK ?kd ?ku ?_; (case kB => k_asm); (case kF => k_asm); (case kX => k_asm); (case kT => k_asm); (case kK => first | exact rfl | assumption); (case kd => ktr_room); (case ku => ktr_units))
            case off =>
              intro q hq
              rcases List.mem_cons.mp hq with rfl | hq
              · exact hIh.symm
              · exact hoffh q hq
            case kN =>
              refine sub_news N5 fun q hq => ?_
              simp only [List.mem_cons] at hq ⊢
              rcases hq with rfl | rfl | hq
              · exact .inr (.inr (.inl rfl))
              · exact .inr (.inl rfl)
              · exact .inr (.inr (.inr hq))
            intro r9 nw9 h9 tk9' F9 N9 hp9
            obtain ⟨e9, T9, t9, l9, f9'⟩ := hp9
            subst e9; subst f9'
            clear F5 N5
            (try dsimp only at N9); (try dsimp only)
            k_steps
            show TurnEnd' _ _ _ _ _ _ _
            rename News g0 L0 _ _ => N5
            have hT1 : @LT.lt Nat _ hl T9 := l9 _ (.head _)
            have hT2 : @LT.lt Nat _ I T9 := l9 _ (.tail _ (.head _))
            obtain ⟨en, hen0⟩ : ∃ en : Ent, en = ⟨T9, rst, t1, beforeOf e.v ⟨rst, rd, rms, rgl⟩, t9⟩ := ⟨_, rfl⟩
            have hen1 : en.a = T9 := by rw [hen0]
            have hen2 : ents (es ++ [en]) = ents es ++ [(rst, beforeOf e.v ⟨rst, rd, rms, rgl⟩)] := by rw [ents_snoc, hen0]
            have hen3 : tup2 rst t1 (beforeOf e.v ⟨rst, rd, rms, rgl⟩) t9 = tup2 en.n en.tn en.v en.tv := by rw [hen0]
            refine TurnEnd'.mk' (nx := (hl, listOf (hvals (es ++ [en])).toArray (k2 + 1)) :: (T9, tup2 en.n en.tn en.v en.tv) :: tl2) (by assumption) N5 (.tail _ (.tail _ (.head _))) ?_ ?_ ⟨es ++ [en], k2 + 1, (T9, tup2 en.n en.tn en.v en.tv) :: tl2, rfl, rfl, ⟨_, rfl⟩, rfl, rfl, rfl, ?_, (fun q hq => .tail _ (hbase q hq)), ?_, ?_, ?_⟩
            · intro q hq
              rw [hvals_snoc, hen1, ← hen3] at hq
              simp only [List.mem_cons] at hq ⊢
              rcases hq with rfl | rfl | hq
              · exact .inr (.inl rfl)
              · exact .inl rfl
              · exact .inr (.inr (.inr hq))
            · intro q hq
              simp only [List.mem_cons] at hq
              rcases hq with rfl | rfl | hq
              · exact hIh
              · exact Nat.ne_of_gt hT2
              · exact hoff q (.tail _ hq)
            · intro q hq
              rcases List.mem_cons.mp hq with rfl | hq
              · exact Nat.ne_of_gt hT1
              · exact hoffh q hq
            · intro e he
              rcases List.mem_append.mp he with he | he
              · exact .tail _ (hei e he)
              · rw [List.mem_singleton.mp he, hen1]; exact .head _
            · rw [hen2, List.getElem?_append_left (List.getElem?_eq_some_iff.mp heg).1]; exact heg
            · rw [hen2]; exact hIv'
        · rename (_ == _) = false => hge
          have hge2 : ¬ rgl = e.n := by simpa using hge
          rw [layF_ne (en := e.n) (q := e.v) (p := ⟨rst, rd, rms, rgl⟩) hge2] at hIv'
          show TurnEnd' _ _ _ _ _ _ _
          refine TurnEnd'.mk' (nx := (hl, listOf (hvals es).toArray k2) :: tl2) (by assumption) (by assumption) (.head _) (fun q hq => .tail _ hq) hoff ⟨es, k2, tl2, rfl, rfl, ⟨_, rfl⟩, rfl, rfl, rfl, hoffh, hbase, hei, heg, hIv'⟩
      · rintro m₃ nx h tk ⟨es', k2', tl2', q1, q2, ⟨td', q3⟩, q4, q5, rfl, hoffh', hbase', hei', heg', hIv'⟩ F3 N3
        have F4 := know3 F3 q1 q2 q3
        clear F3
        rw [show (pvals ps).length = (stepsOf (ents esR)).length by rw [pvals_length, ← hpm2, List.length_map]] at hIv'
        have hI2 := HI.next _ _ hIv' (List.getElem?_eq_some_iff.mp heg').1
        k_steps
        show WEnd _ _ _ _ _ _
        refine WEnd.mk' (20 - (d + 1)) (by assumption) (by assumption) ?_ ⟨es', d + 1, k2', tl2', _, rfl, rfl, rfl, rfl, hoffh', hbase', hei', hI2, rfl⟩
        omega
    · rename ¬ (d : Int) < _ => hdlt
      exact hret _ _ _ _ (by assumption) (sub_news (by assumption) fun p hp => .tail _ hp) ⟨Y, dy, hl, es, k2, d, tk8, tl2, rfl, rfl, hY2, hd2, hei, (fun q hq => hbase _ (hbt _ (hsub _ hq))), hIv, by omega⟩
end Mine
end

section
local macro_rules | `(tactic| walk_at "binaryOp FloorDiv int int") => `(tactic| (k_here; (refine Mine.my_div (by decide) (by decide +kernel) ?_); (try dsimp only)))
local macro_rules | `(tactic| walk_at "binaryOp Mod int int") => `(tactic| (k_here; (refine Mine.my_mod (by decide) ?_); (try dsimp only)))
local macro_rules | `(tactic| walk_at "subscriptTail") => `(tactic| (k_here; (with_reducible show wpAny _ _ (subscriptTail _ _ (Value.str _ _) (Value.int (Mine.mdd _ _) _)) _ _ _); (first | (refine Mine.my_item (by decide) Mine.lit_ab Mine.lit_ab' ?_) | (refine Mine.my_item (by decide) Mine.lit_01 Mine.lit_01' ?_) | (refine Mine.my_item (by decide) Mine.lit_abc Mine.lit_abc' ?_)); (try dsimp only)))

section
open PySem PySem.W PyProof.Rows PySem.Builtin PySem.Builtin.Str
set_option Elab.async false
set_option maxRecDepth 100000
set_option maxHeartbeats 8000000
namespace Mine
noncomputable def deedOf (k : Int) : Str := if k = 6 then Str.ofString "rest" else if k < 2 then Str.ofString "send" else Str.ofString "take"
structure RowIs (x : Int) (i : Nat) (r : Row) : Prop where
  b : r.b = Txt.item (Str.ofString "ab") (mdd x 2)
  d : r.d = deedOf (mdd (dvv x 6) 7)
  sg : r.sg = Txt.item (Str.ofString "01") (mdd (mdd (dvv x 6) 7) 2)
  g : r.g = if i = 4 then Str.ofString "c" else Txt.item (Str.ofString "abc") (mdd (dvv x 2) 3)
noncomputable def Jdrawn (xs : List (Int × Tok)) (news : Led) (i : Nat) (m : Str → Option Value) (nx : Led) : Prop :=
  ∃ (D : Addr) (rs : List Row) (tl : Led), m (Str.ofString "drawn") = some (.ref D) ∧ nx = (D, listOf (rvals rs).toArray i) :: (tl ++ news) ∧ rs.length = i ∧ (∀ q ∈ tl ++ news, q.1 ≠ D) ∧ (∀ r ∈ rs, (r.a, tup4 r) ∈ tl) ∧
    ∀ j r, rs[j]? = some r → ∃ x, xs[j]? = some x ∧ RowIs x.1 j r
theorem drawn_turn {h₀ h' : Heap} {L I D T : Addr} {oI : Obj} {xs : List (Int × Tok)} {news tl : Led} {i : Nat} {rs : List Row} {x : Int} {tx : Tok} {m' : Str → Option Value} {s₁ : Shared} {tk : Nat} {b d sg g : Str} {t1 t2 t3 t4 : Tok}
    (F : Fr h₀ L h' m') (N : News h₀ L h' ((T, ({ cls := .type "tuple", data := .seq #[.str b t1, .str d t2, .str sg t3, .str g t4] } : Obj)) :: (I, oI) :: (D, listOf (rvals rs ++ [Value.ref T]).toArray (i + 1)) :: (tl ++ news)))
    (hm : m' (Str.ofString "drawn") = some (.ref D)) (hlen : rs.length = i) (hD : ∀ q ∈ tl ++ news, q.1 ≠ D) (hin : ∀ r ∈ rs, (r.a, tup4 r) ∈ tl) (hrs : ∀ j r, rs[j]? = some r → ∃ x, xs[j]? = some x ∧ RowIs x.1 j r)
    (hx : xs[i]? = some (x, tx)) (hoff : ∀ p ∈ (D, listOf (rvals rs).toArray i) :: (tl ++ news), p.1 ≠ I) (hTI : @LT.lt Nat _ I T) (hTD : @LT.lt Nat _ D T)
    (hr : RowIs x i ⟨T, b, d, sg, g, t1, t2, t3, t4⟩) : TurnEnd' h₀ L I oI (Jdrawn xs news (i + 1)) s₁ { s₁ with heap := h', toks := tk } := by
  have e : rvals (rs ++ [⟨T, b, d, sg, g, t1, t2, t3, t4⟩]) = rvals rs ++ [Value.ref T] := by simp [rvals]
  refine TurnEnd'.mk' (nx := (D, listOf (rvals rs ++ [Value.ref T]).toArray (i + 1)) :: (((T, tup4 ⟨T, b, d, sg, g, t1, t2, t3, t4⟩) :: tl) ++ news)) F N (by k_mem) ?_ ?_ ⟨D, rs ++ [⟨T, b, d, sg, g, t1, t2, t3, t4⟩], (T, tup4 ⟨T, b, d, sg, g, t1, t2, t3, t4⟩) :: tl, hm, by rw [e], by simp [hlen], ?_, ?_, ?_⟩
  · intro p hp
    rcases List.mem_cons.mp hp with rfl | hp
    · exact .tail _ (.tail _ (.head _))
    · rcases List.mem_cons.mp hp with rfl | hp
      · exact .head _
      · exact .tail _ (.tail _ (.tail _ hp))
  · intro p hp
    rcases List.mem_cons.mp hp with rfl | hp
    · exact hoff (D, listOf (rvals rs).toArray i) (.head _)
    · rcases List.mem_cons.mp hp with rfl | hp
      · exact Nat.ne_of_gt hTI
      · exact hoff _ (.tail _ hp)
  · intro q hq
    rcases List.mem_cons.mp hq with rfl | hq
    · exact Nat.ne_of_gt hTD
    · exact hD q hq
  · intro r hr'
    rcases List.mem_append.mp hr' with h | h
    · exact .tail _ (hin r h)
    · rw [List.mem_singleton.mp h]; exact .head _
  · intro j r hj
    by_cases hji : j < rs.length
    · rw [List.getElem?_append_left hji] at hj
      exact hrs j r hj
    · rw [List.getElem?_append_right (by omega)] at hj
      have : j - rs.length = 0 := by
        have := (List.getElem?_eq_some_iff.mp hj).1
        simp at this; omega
      rw [this] at hj
      cases hj
      obtain rfl : j = i := by omega
      exact ⟨_, hx, hr⟩
theorem drawn_con (w : World) (news : Led) (dr : Addr) (k : Nat) (xs : List (Int × Tok)) (hd : (dr, listOf (xs.map fun x => Value.int x.1 x.2).toArray k) ∈ news) (h5 : xs.length = 5) :
   Con 10 w 210 [.ref dr] news (fun r news' => ∃ (D : Addr) (rs : List Row) (tl : Led), r = .ref D ∧ news' = (D, listOf (rvals rs).toArray 5) :: (tl ++ news) ∧ rs.length = 5 ∧ (∀ r ∈ rs, (r.a, tup4 r) ∈ tl) ∧ ∀ j r, rs[j]? = some r → ∃ x, xs[j]? = some x ∧ RowIs x.1 j r) := by
  w_top off; (have hFill : Mine.fillT PySem.Challenge.rw_re0169_01 Mine.head.heap_1_39 := (by k_fill; exact ⟨rfl, rfl⟩); clear hFill)
  (try unfold Mine.Con)
  unfold Mine.ConK
  intro mean mg mb dp un gd cn cs a ccd cl outer A₀ base h₀ L m s Q E B F X N T hk hdp hun hret
  refine wpAny_call ?_
  k_dflt (refine' code_def (binds := [(Str.ofString "draws", .ref dr)]) ?k1 ?k2 ?k3 ?k4 ?k5 ?kA ?kF ?kK ?k6 ?k7 ?k8 ?k9 ?kB ?_ ?c2 ?c3 ?c4 ?c5; (case kA => exact rfl); (case kF => exact rfl); (case kK => assumption); (case k1 => k_asm); (case k2 => k_asm); (case k3 => k_asm); (case k4 => k_asm); (case k5 => k_asm); (case k6 => k_is); (case k7 => k_is); (case k8 => ktr_room); (case k9 => first | exact BindsTo.of_eq rfl | exact binds_K (by k_in) rfl (by k_is) rfl rfl rfl); (case c5 => decide); (case kB => exact locs rfl); (case c2 => exact rfl); (case c3 => exact rfl); (case c4 => exact rfl); k_whole; intro g0 L0 h1 FG0 F1 N1 B1 X1 T1; (try dsimp only); (try k_fold))
  k_steps
  refine Stop.mk ?_
  rename Fr g0 L0 _ _ => F2
  rename News g0 L0 _ _ => N2
  rename ∀ q ∈ news, _ < _ => hlt
  refine For_turns F2 ?_
  k_steps
  refine Stop.mk ?_
  refine turns_list (vs := xs.map fun x => Value.int x.1 x.2) (k := k) (Jdrawn xs news) rfl F2 N2 (fun _ h => h) ⟨_, [], [], rfl, rfl, rfl, fun q hq => Nat.ne_of_lt (hlt q hq), (fun _ h => nomatch h), (fun j r h => by simp at h)⟩ ?_ ?_ ?_
  · rintro i m nx ⟨D, rs, tl, _, rfl, _⟩
    exact .tail _ (List.mem_append_right _ hd)
  · rintro I hI i vv m₁ nx h tk oI hvv ⟨D, rs, tl, q1, rfl, hlen, hD, hin, hrs⟩ hoff F3 N3
    have F4 := know F3 q1
    clear F3
    obtain ⟨x, tx, hx, rfl⟩ : ∃ x tx, xs[i]? = some (x, tx) ∧ vv = .int x tx := by
      rw [List.getElem?_map] at hvv
      cases e : xs[i]? with
      | none => rw [e] at hvv; cases hvv
      | some p => rw [e] at hvv; cases hvv; exact ⟨_, _, rfl, rfl⟩
    have hi5 : i < 5 := by
      obtain ⟨q, _⟩ := List.getElem?_eq_some_iff.mp hx
      simpa [h5] using q
    have hi5' : rs.length < 5 := by omega
    have hID : @Ne Nat D I := hoff _ (.head _)
    have hrl : (rvals rs).length = i := rvals_length.trans hlen
    k_steps
    all_goals (try k_data)
    all_goals (try (show TurnEnd' _ _ _ _ _ _ _; refine drawn_turn (by assumption) (by assumption) rfl hlen hD hin hrs hx hoff (by omega) (by omega) ⟨rfl, ?_, rfl, ?_⟩))
    all_goals (dsimp only)
    all_goals (first | rw [if_pos (by omega)] | rw [if_neg (by omega)] | (rw [deedOf, if_pos (by assumption)]; done) | (rw [deedOf, if_neg (by assumption), if_pos (by assumption)]; done) | (rw [deedOf, if_neg (by assumption), if_neg (by assumption)]; done) | fail)
  · rintro m₁ nx h tk ⟨D, rs, tl, q1, rfl, hlen, hD, hin, hrs⟩ F3 N3
    have F4 := know F3 q1
    clear F3
    rw [List.length_map, h5] at hlen N3
    k_steps
    exact hret _ _ _ _ (by assumption) (by assumption) ⟨D, rs, tl, rfl, rfl, hlen, hin, hrs⟩
end Mine
end

section
open PySem PySem.W PyProof.Rows PySem.Builtin PySem.Builtin.Str
set_option Elab.async false
set_option maxRecDepth 100000
set_option maxHeartbeats 8000000
namespace Mine
local macro_rules | `(tactic| walk_at "call ref") => `(tactic| (k_here; (with_reducible show wpAny _ _ (call (Value.ref 199) _ _) _ _ _); k_dflt (refine' Mine.ConK.usa (hdr_con _ _ _ ?z1) ?_; (case z1 => k_mem); k_whole); intro r9 nw9 h9 tk9 F9 N9 hp9; obtain ⟨x9, dx9, tk8, e9, f9, g9, i9⟩ := hp9; subst e9; subst i9; (try k_lt f9); (try dsimp only); (try k_sweep)))
local macro_rules | `(tactic| walk_at "call type:zip") => `(tactic| (refine Mine.stopAt ?_))
local macro_rules | `(tactic| walk_at "exec For Tuple Call cons nil") => `(tactic| (refine Mine.stopAt ?_))
local macro_rules | `(tactic| walk_at "exec If") => `(tactic| (refine Mine.stopAt ?_))
local macro_rules | `(tactic| walk_at "eval IfExp") => `(tactic| (refine Mine.stopAt ?_))
noncomputable def nameOf (x : Int) (r : Row) : Str := if mdd (dvv x 42) 2 = 1 then Txt.upper r.b else r.b
noncomputable def goalOf (x : Int) (r : Row) : Str := if mdd (dvv x 84) 2 = 1 then Txt.upper r.g else r.g
noncomputable def msgOf (m0 m1 : Str) (r : Row) : Str := if r.sg = Str.ofString "0" then m0 else m1
noncomputable def valOf (m0 m1 : Str) (x : Int) (r : Row) : Str := if r.d = Str.ofString "send" then Str.ofString "<<" ++ msgOf m0 m1 r ++ goalOf x r else if r.d = Str.ofString "take" then Str.ofString ">>" ++ msgOf m0 m1 r ++ goalOf x r else goalOf x r
-- @USEOFF 196 @@ add_con _ _ _ _ _ _ _ _ _ _ _ _ _ ?a1 ?a2 ?a3 ?a4 ?a5 ?a6 ?a7 ?a8 ?a9 @@ (case a5 => k_mem); (case a6 => k_mem); (case a7 => k_mem); (case a8 => k_updF); (case a1 => first | assumption | omega); (case a2 => first | assumption | omega); (case a3 => assumption); (case a4 => assumption); (case a9 => (simp only [Mine.hvals_length]; omega)) @@ obtain ⟨e9, T9, t9, l9, f9⟩ := hp9; subst e9; subst f9; (try dsimp only at N9); (try k_lt l9)
local macro_rules | `(tactic| k_mem) => `(tactic| (refine List.mem_append_right _ (List.mem_append_left _ ?_); assumption))
local macro_rules | `(tactic| k_mem) => `(tactic| (refine List.mem_append_left _ ?_; assumption))
local macro_rules | `(tactic| walk_at "subscriptTail") => `(tactic| (k_here; (with_reducible show wpAny _ _ (subscriptTail _ _ (Value.ref _) (Value.int _ _)) _ _ _); k_dflt (refine' Mine.item_listN ?k1 ?k2 (by decide) (by decide) ?k3 ?_; (case k1 => k_asm); (case k2 => k_mem); (case k3 => rfl)); (try dsimp only)))
local macro_rules | `(tactic| walk_at "call ref") => `(tactic| ((with_reducible show wpAny _ _ (call (Value.ref 196) _ _) _ _ _); refine Mine.stopAt ?_))
theorem lit_10 : ¬ Str.ofString "1" = Str.ofString "0" := by decide +kernel
structure EntIs (m0 m1 : Str) (x : Int) (r : Row) (e : Ent) : Prop where
  n : e.n = nameOf x r
  v : e.v = valOf m0 m1 x r
noncomputable def Jrules (w : World) (ml : Addr) (m0 m1 : Str) (xs : List (Int × Tok)) (rs : List Row) (news : Led) (i : Nat) (m : Str → Option Value) (nx : Led) : Prop :=
  ∃ (X dx hl : Addr) (es : List Ent) (tk : Tok) (tl : Led), m (Str.ofString "rules") = some (.ref X) ∧ m (Str.ofString "messages") = some (.ref ml) ∧ nx = (hl, listOf (hvals es).toArray i) :: (tl ++ news) ∧ es.length = i ∧
    (X, instObj 199 dx) ∈ tl ∧ (dx, dictOf [⟨PyData.keyHash w.params (Str.ofString "_headers"), .str (Str.ofString "_headers") tk, .ref hl⟩] 1) ∈ tl ∧ EntsIn tl es ∧ (∀ q ∈ tl ++ news, q.1 ≠ hl) ∧
    ∀ (j : Nat) (e : Ent), es[j]? = some e → ∃ (x : Int × Tok) (r : Row), xs[j]? = some x ∧ rs[j]? = some r ∧ EntIs m0 m1 x.1 r e
theorem rules_turn {w : World} {h₀ h' : Heap} {L X dx hl ml T : Addr} {m0 m1 : Str} {xs : List (Int × Tok)} {rs : List Row} {news tl its : Led} {i : Nat} {es : List Ent} {x : Int} {tx tkd tn tv : Tok} {r : Row} {n v : Str} {m' : Str → Option Value} {s₁ : Shared} {tk : Nat}
    (F : Fr h₀ L h' m') (N : News h₀ L h' ((T, tup2 n tn v tv) :: (hl, listOf (hvals es ++ [Value.ref T]).toArray (i + 1)) :: (tl ++ (news ++ its))))
    (hm : m' (Str.ofString "rules") = some (.ref X)) (hm2 : m' (Str.ofString "messages") = some (.ref ml)) (hlen : es.length = i)
    (hX : (X, instObj 199 dx) ∈ tl) (hdx : (dx, dictOf [⟨PyData.keyHash w.params (Str.ofString "_headers"), .str (Str.ofString "_headers") tkd, .ref hl⟩] 1) ∈ tl) (hes : EntsIn tl es) (hoffl : ∀ q ∈ tl ++ news, q.1 ≠ hl)
    (hall : ∀ (j : Nat) (e : Ent), es[j]? = some e → ∃ (x : Int × Tok) (r : Row), xs[j]? = some x ∧ rs[j]? = some r ∧ EntIs m0 m1 x.1 r e)
    (hx : xs[i]? = some (x, tx)) (hr : rs[i]? = some r) (hoff : ∀ p ∈ (hl, listOf (hvals es).toArray i) :: (tl ++ news), ∀ q ∈ its, p.1 ≠ q.1)
    (hT : ∀ p ∈ (hl, listOf (hvals es).toArray i) :: (tl ++ (news ++ its)), p.1 < T) (hn : n = nameOf x r) (hv : v = valOf m0 m1 x r) :
    ZEnd h₀ L its (Jrules w ml m0 m1 xs rs news (i + 1)) s₁ { s₁ with heap := h', toks := tk } := by
  have e : hvals (es ++ [⟨T, n, tn, v, tv⟩]) = hvals es ++ [Value.ref T] := by simp [hvals]
  refine ZEnd.mk' (nx := (hl, listOf (hvals es ++ [Value.ref T]).toArray (i + 1)) :: (((T, tup2 n tn v tv) :: tl) ++ news)) F N ?_ ?_ ⟨X, dx, hl, es ++ [⟨T, n, tn, v, tv⟩], tkd, (T, tup2 n tn v tv) :: tl, hm, hm2, by rw [e], by simp [hlen], .tail _ hX, .tail _ hdx, ?_, ?_, ?_⟩
  · intro p hp
    simp only [List.cons_append, List.mem_cons, List.mem_append] at hp ⊢
    grind
  · intro p hp q hq
    rcases List.mem_cons.mp hp with rfl | hp
    · exact hoff _ (.head _) q hq
    · rcases List.mem_cons.mp hp with rfl | hp
      · exact Nat.ne_of_gt (hT q (.tail _ (List.mem_append_right _ (List.mem_append_right _ hq))))
      · exact hoff p (.tail _ hp) q hq
  · intro e he
    rcases List.mem_append.mp he with h | h
    · exact .tail _ (hes e h)
    · rw [List.mem_singleton.mp h]; exact .head _
  · intro q hq
    rcases List.mem_cons.mp hq with rfl | hq
    · exact Nat.ne_of_gt (hT _ (.head _))
    · exact hoffl q hq
  · intro j e hj
    by_cases hji : j < es.length
    · rw [List.getElem?_append_left hji] at hj
      exact hall j e hj
    · rw [List.getElem?_append_right (by omega)] at hj
      have : j - es.length = 0 := by
        have := (List.getElem?_eq_some_iff.mp hj).1
        simp at this; omega
      rw [this] at hj
      cases hj
      obtain rfl : j = i := by omega
      exact ⟨_, _, hx, hr, hn, hv⟩
theorem rules_con (w : World) (news : Led) (dl dr ml : Addr) (k1 k2 k3 : Nat) (xs : List (Int × Tok)) (rs : List Row) (m0 m1 : Str) (u0 u1 : Tok)
    (hdl : (dl, listOf (xs.map fun x => Value.int x.1 x.2).toArray k1) ∈ news) (hdr : (dr, listOf (rvals rs).toArray k2) ∈ news) (hml : (ml, listOf [Value.str m0 u0, Value.str m1 u1].toArray k3) ∈ news) (hrs : RowsIn news rs) (h5 : xs.length = 5) (h5' : rs.length = 5)
    (hsg : ∀ r ∈ rs, r.sg = Str.ofString "0" ∨ r.sg = Str.ofString "1") (hm0 : m0.length ≤ 10) (hm1 : m1.length ≤ 10) (hlen : ∀ r ∈ rs, r.b.length ≤ 10 ∧ r.d.length ≤ 10 ∧ r.g.length ≤ 10)
    (hgood : ∀ (j : Nat) (x : Int × Tok) (r : Row), xs[j]? = some x → rs[j]? = some r → GoodN (nameOf x.1 r) ∧ GoodV (valOf m0 m1 x.1 r) ∧ (goalOf x.1 r).length ≤ 1000) :
   Con 20 w 217 [.ref dl, .ref dr, .ref ml] news (fun r news' => ∃ (X dx hl : Addr) (es : List Ent) (tk : Tok) (tl : Led), r = .ref X ∧ news' = (hl, listOf (hvals es).toArray 5) :: (tl ++ news) ∧ es.length = 5 ∧
     (X, instObj 199 dx) ∈ tl ∧ (dx, dictOf [⟨PyData.keyHash w.params (Str.ofString "_headers"), .str (Str.ofString "_headers") tk, .ref hl⟩] 1) ∈ tl ∧ EntsIn tl es ∧
     ∀ (j : Nat) (e : Ent), es[j]? = some e → ∃ (x : Int × Tok) (r : Row), xs[j]? = some x ∧ rs[j]? = some r ∧ EntIs m0 m1 x.1 r e) := by
  w_top off; (have hFill : Mine.fillT PySem.Challenge.rw_re0169_01 Mine.head.heap_1_39 := (by k_fill; exact ⟨rfl, rfl⟩); clear hFill)
  (try unfold Mine.Con)
  unfold Mine.ConK
  intro mean mg mb dp un gd cn cs a ccd cl outer A₀ base h₀ L m s Q E B F X N T hk hdp hun hret
  refine wpAny_call ?_
  k_dflt (refine' code_def (binds := [(Str.ofString "draws", .ref dl), (Str.ofString "drawn", .ref dr), (Str.ofString "messages", .ref ml)]) ?k1 ?k2 ?k3 ?k4 ?k5 ?kA ?kF ?kK ?k6 ?k7 ?k8 ?k9 ?kB ?_ ?c2 ?c3 ?c4 ?c5; (case kA => exact rfl); (case kF => exact rfl); (case kK => assumption); (case k1 => k_asm); (case k2 => k_asm); (case k3 => k_asm); (case k4 => k_asm); (case k5 => k_asm); (case k6 => k_is); (case k7 => k_is); (case k8 => ktr_room); (case k9 => first | exact BindsTo.of_eq rfl | exact binds_K (by k_in) rfl (by k_is) rfl rfl rfl); (case c5 => decide); (case kB => exact locs rfl); (case c2 => exact rfl); (case c3 => exact rfl); (case c4 => exact rfl); k_whole; intro g0 L0 h1 FG0 F1 N1 B1 X1 T1; (try dsimp only); (try k_fold))
  k_steps
  refine Stop.mk ?_
  rename Fr g0 L0 _ _ => F2
  rename News g0 L0 _ _ => N2
  rename ∀ q ∈ news, _ < _ => hlt
  rename _ ∧ AllLt _ news => hlt2
  refine For_turns F2 ?_
  k_steps
  refine Stop.mk ?_
  have hv2 := rvals_length (es := rs)
  rename Fr g0 L0 _ _ => F2
  rename News g0 L0 _ _ => N2
  refine turns_zip (xs := xs.map fun x => Value.int x.1 x.2) (ys := rvals rs) (n1 := k1) (n2 := k2) (Jrules w ml m0 m1 xs rs news) rfl F2 (swap3 N2) ⟨_, _, _, [], _, _, rfl, rfl, rfl, rfl, .head _, .tail _ (.head _), (fun _ h => nomatch h), ?off, (fun j e h => by simp at h)⟩ (by simp [h5, h5', rvals_length]) ?_ ?_ ?_ ?_
  case off =>
    intro q hq
    rcases List.mem_cons.mp hq with rfl | hq
    · k_ne
    · rcases List.mem_cons.mp hq with rfl | hq
      · k_ne
      · exact Nat.ne_of_lt (hlt q hq)
  · rintro i m nx ⟨X, dx, hl, es, tk, tl, _, _, rfl, _⟩
    exact .tail _ (List.mem_append_right _ hdl)
  · rintro i m nx ⟨X, dx, hl, es, tk, tl, _, _, rfl, _⟩
    exact .tail _ (List.mem_append_right _ hdr)
  · rintro i xv yv T m₁ nx its h tk hxi hyi hT ⟨X, dx, hl, es, tk', tl, q1, q2, rfl, hlen5, hX, hdx, hes, hoffl, hall⟩ hoff F3 N3
    have F4 := know2 F3 q1 q2
    clear F3
    obtain ⟨x, tx, hx, rfl⟩ : ∃ x tx, xs[i]? = some (x, tx) ∧ xv = .int x tx := by
      rw [List.getElem?_map] at hxi
      cases e : xs[i]? with
      | none => rw [e] at hxi; cases hxi
      | some p => rw [e] at hxi; cases hxi; exact ⟨_, _, rfl, rfl⟩
    obtain ⟨r, hri, rfl⟩ := rvals_get hyi
    have hmem := List.mem_of_getElem? hri
    have htup := hrs r hmem
    obtain ⟨l1, l2, l3⟩ := hlen r hmem
    have hi5 : i < 5 := by
      have := (List.getElem?_eq_some_iff.mp hx).1
      omega
    have N4 : News g0 L0 h ((hl, listOf (hvals es).toArray i) :: (tl ++ (news ++ its))) := sub_news N3 (fun p hp => by simpa using hp)
    have hoff4 : ∀ q ∈ tl ++ (news ++ its), q.1 ≠ hl := fun q hq => by
      rcases List.mem_append.mp hq with hq | hq
      · exact hoffl q (List.mem_append_left _ hq)
      · rcases List.mem_append.mp hq with hq | hq
        · exact hoffl q (List.mem_append_right _ hq)
        · exact fun e => hoff _ (.head _) q hq e.symm
    clear N3
    obtain ⟨ra, rb, rd, rsg, rg, t1, t2, t3, t4⟩ := r
    dsimp only at *
    obtain ⟨hgn, hgv, hgl⟩ := hgood i _ _ hx hri
    dsimp only at hgn hgv hgl
    k_steps
    refine Stop.mk ?_
    rename Fr g0 L0 _ _ => F5
    rename News g0 L0 _ _ => N5
    refine join_str (goalOf x ⟨ra, rb, rd, rsg, rg, t1, t2, t3, t4⟩) F5 N5 ?_ ?_
    · refine IfExp_ ?_
      k_steps
      · refine StrAt.mk' (by assumption) (by assumption) (if_pos (by assumption)).symm
      · refine StrAt.mk' (by assumption) (by assumption) (if_neg (by assumption)).symm
    intro h6 tk6 t6 F6 N6
    clear F5 N5
    (try k_sweep)
    k_steps
    refine Stop.mk ?_
    rename Fr g0 L0 _ _ => F5
    rename News g0 L0 _ _ => N5
    refine join_store (Str.ofString "value") (if rd = Str.ofString "send" then Str.ofString "<<" ++ msgOf m0 m1 ⟨ra, rb, rd, rsg, rg, t1, t2, t3, t4⟩ ++ goalOf x ⟨ra, rb, rd, rsg, rg, t1, t2, t3, t4⟩ else goalOf x ⟨ra, rb, rd, rsg, rg, t1, t2, t3, t4⟩) F5 N5 ?_ ?_
    · refine wpAny_If ?_
      k_steps
      · rename (_ == _) = true => hd1
        have hd2 : rd = Str.ofString "send" := by simpa using hd1
        rcases hsg _ hmem with hs0 | hs0
        · dsimp only at hs0
          subst hs0
          k_steps
          refine StoreAt.mk' (by assumption) (by assumption) rfl ?_ (fun y hy => by simp [hy])
          rw [if_pos hd2, msgOf, if_pos rfl]
        · dsimp only at hs0
          subst hs0
          k_steps
          refine StoreAt.mk' (by assumption) (by assumption) rfl ?_ (fun y hy => by simp [hy])
          rw [if_pos hd2, msgOf, if_neg lit_10]
      · rename (_ == _) = false => hd1
        have hd2 : ¬ rd = Str.ofString "send" := by simpa using hd1
        refine StoreAt.mk' (by assumption) (by assumption) rfl (if_neg hd2).symm (fun y hy => rfl)
    intro h7 tk7 t7 F7 N7
    have hvl : (if rd = Str.ofString "send" then Str.ofString "<<" ++ msgOf m0 m1 ⟨ra, rb, rd, rsg, rg, t1, t2, t3, t4⟩ ++ goalOf x ⟨ra, rb, rd, rsg, rg, t1, t2, t3, t4⟩ else goalOf x ⟨ra, rb, rd, rsg, rg, t1, t2, t3, t4⟩).length ≤ 1100 := by
      have e1 : (Str.ofString "<<").length = 2 := by decide +kernel
      have e2 : (msgOf m0 m1 ⟨ra, rb, rd, rsg, rg, t1, t2, t3, t4⟩).length ≤ 10 := by unfold msgOf; split <;> assumption
      split
      · rw [Str.length_append, Str.length_append]; omega
      · omega
    clear F5 N5
    (try k_sweep)
    k_steps
    refine Stop.mk ?_
    rename Fr g0 L0 _ _ => F5
    rename News g0 L0 _ _ => N5
    refine join_store (Str.ofString "value") (valOf m0 m1 x ⟨ra, rb, rd, rsg, rg, t1, t2, t3, t4⟩) F5 N5 ?_ ?_
    · refine wpAny_If ?_
      k_steps
      · rename (_ == _) = true => hd1
        have hd2 : rd = Str.ofString "take" := by simpa using hd1
        have hd3 : ¬ rd = Str.ofString "send" := by rw [hd2]; decide +kernel
        rcases hsg _ hmem with hs0 | hs0
        · dsimp only at hs0
          subst hs0
          k_steps
          refine StoreAt.mk' (by assumption) (by assumption) rfl ?_ (fun y hy => by simp [hy])
          rw [valOf, if_neg hd3, if_neg hd3, if_pos hd2, msgOf, if_pos rfl]
        · dsimp only at hs0
          subst hs0
          k_steps
          refine StoreAt.mk' (by assumption) (by assumption) rfl ?_ (fun y hy => by simp [hy])
          rw [valOf, if_neg hd3, if_neg hd3, if_pos hd2, msgOf, if_neg lit_10]
      · rename (_ == _) = false => hd1
        have hd2 : ¬ rd = Str.ofString "take" := by simpa using hd1
        refine StoreAt.mk' (by assumption) (by assumption) rfl ?_ (fun y hy => rfl)
        unfold valOf
        dsimp only
        rw [if_neg hd2]
    intro h8 tk8 t8 F8 N8
    clear F5 N5
    (try k_sweep)
    k_steps
    refine Stop.mk ?_
    rename Fr g0 L0 _ _ => F5
    rename News g0 L0 _ _ => N5
    refine join_str (nameOf x ⟨ra, rb, rd, rsg, rg, t1, t2, t3, t4⟩) F5 N5 ?_ ?_
    · refine IfExp_ ?_
      k_steps
      · refine StrAt.mk' (by assumption) (by assumption) (if_pos (by assumption)).symm
      · refine StrAt.mk' (by assumption) (by assumption) (if_neg (by assumption)).symm
    intro h9 tk9 t9 F9 N9
    clear F5 N5
    (try k_sweep)
    k_steps
    refine Stop.mk ?_
    k_dflt (refine' Mine.ConK.use (add_con w _ (fun o => (hl, o) :: (tl ++ (news ++ its))) X dx hl (hvals es) i _ _ _ _ tk' hgn.1 hgv.1 hgn.2 hgv.2 ?a5 ?a6 ?a7 ?a8 ?a9) ?kB ?kF ?kX ?kN ?kT ?kK ?kd ?ku ?_; (case kB => k_asm); (case kF => k_asm); (case kX => k_asm); (case kN => k_asm); (case kT => k_asm); (case kK => first | exact rfl | assumption); (case kd => ktr_room); (case ku => ktr_units); (case a5 => exact .tail _ (List.mem_append_left _ hX)); (case a6 => exact .tail _ (List.mem_append_left _ hdx)); (case a7 => exact .head _); (case a8 => exact .head hoff4); (case a9 => (simp only [Mine.hvals_length]; omega)))
    intro r9 nw9 h9 tk9 F9 N9 hp9
    obtain ⟨e9, T9, t9, l9, f9⟩ := hp9
    subst e9; subst f9
    (try dsimp only at N9); (try dsimp only)
    k_steps
    exact rules_turn (by assumption) (by assumption) rfl rfl hlen5 hX hdx hes hoffl hall hx hri hoff l9 rfl rfl
  · rintro m₁ nx h tk ⟨X, dx, hl, es, tk', tl, q1, q2, rfl, hlen5, hX, hdx, hes, hoffl, hall⟩ F3 N3
    have F4 := know2 F3 q1 q2
    clear F3
    rw [List.length_map, h5] at hlen5 N3
    k_steps
    exact hret _ _ _ _ (by assumption) (by assumption) ⟨X, dx, hl, es, tk', tl, rfl, rfl, hlen5, hX, hdx, hes, hall⟩
end Mine
end

section
namespace Mine
/-- words over the two messages; a rule of the machine: state, deed (none: rest; take s; send s), goal (none: c) -/
noncomputable abbrev Wd := List Bool
structure Rl where
  b : Bool
  d : Option (Bool × Bool)
  g : Option Bool
noncomputable abbrev EA := Option Bool × Wd
noncomputable def befA (q : Wd) : Option (Bool × Bool) → Wd
  | none => q
  | some (true, s) => s :: q
  | some (false, s) => if q.getLast? = some s then q.dropLast else q
noncomputable def heldA (es : List EA) (st : Bool) (w : Wd) : Prop := ∃ u, (some st, u) ∈ es ∧ u.Sublist w
noncomputable def heldB (es : List EA) (st : Bool) (w : Wd) : Bool := es.any fun e => e.1 == some st && e.2.isSublist w
theorem heldB_iff {es : List EA} {st : Bool} {w : Wd} : heldB es st w = true ↔ heldA es st w := by
  unfold heldB heldA
  rw [List.any_eq_true]
  constructor
  · rintro ⟨⟨g, u⟩, he, h⟩
    simp only [Bool.and_eq_true, beq_iff_eq, List.isSublist_iff_sublist] at h
    obtain ⟨rfl, h⟩ := h
    exact ⟨u, he, h⟩
  · rintro ⟨u, he, h⟩
    exact ⟨_, he, by simp only [Bool.and_eq_true, beq_iff_eq, List.isSublist_iff_sublist]; exact ⟨trivial, h⟩⟩
noncomputable def layA (en : Option Bool) (q : Wd) (es : List EA) (r : Rl) : List EA :=
  if r.g = en then (if heldB es r.b (befA q r.d) = true then es else es ++ [(some r.b, befA q r.d)]) else es
theorem heldA.mono {es es' : List EA} {st : Bool} {w : Wd} (h : heldA es st w) (hs : ∀ e ∈ es, e ∈ es') : heldA es' st w := let ⟨u, a, b⟩ := h; ⟨u, hs _ a, b⟩
structure IA (P : List Rl) (es : List EA) (d j : Nat) : Prop where
  top : es[0]? = some (none, [])
  cs : ∀ e ∈ es, e.1 = none → e.2 = []
  nd : es.Nodup
  le2 : ∀ e ∈ es, e.2.length ≤ 2
  two : ∀ s w, (some s, w) ∈ es → 2 ≤ w.length → ∃ u, (some (!s), u) ∈ es ∧ u.Sublist w
  done : ∀ i e, i < d → es[i]? = some e → ∀ r ∈ P, r.g = e.1 → heldA es r.b (befA e.2 r.d)
  half : ∀ e, es[d]? = some e → ∀ k r, k < j → P[k]? = some r → r.g = e.1 → heldA es r.b (befA e.2 r.d)
  from_ : ∀ i e, es[i]? = some e → e = (none, []) ∨ ∃ (i' : Nat) (e' : EA) (r : Rl), i' < i ∧ es[i']? = some e' ∧ r ∈ P ∧ r.g = e'.1 ∧ e.1 = some r.b ∧ e.2 = befA e'.2 r.d
  le : d ≤ es.length
theorem IA.start (P : List Rl) : IA P [(none, [])] 0 0 where
  top := rfl
  cs := fun e he _ => by rw [List.mem_singleton.mp he]
  nd := by simp
  le2 := fun e he => by rw [List.mem_singleton.mp he]; exact Nat.zero_le _
  two := fun s w h => by simp at h
  done := fun i e hi => absurd hi (Nat.not_lt_zero _)
  half := fun e _ k r hk => absurd hk (Nat.not_lt_zero _)
  from_ := fun i e he => by
    have := List.mem_of_getElem? he
    exact .inl (List.mem_singleton.mp this)
  le := Nat.zero_le _
theorem befA_rest_le {q : Wd} {d : Option (Bool × Bool)} (hd : ∀ s, d ≠ some (true, s)) : (befA q d).length ≤ q.length := by
  match d with
  | none => exact Nat.le_refl _
  | some (true, s) => exact absurd rfl (hd s)
  | some (false, s) =>
    show (if q.getLast? = some s then q.dropLast else q).length ≤ q.length
    split
    · rw [List.length_dropLast]; exact Nat.sub_le _ _
    · exact Nat.le_refl _
/-- the heart: a text newly laid -/
theorem new_ok {P : List Rl} {es : List EA} {d j : Nat} (H : IA P es d j) {en : Option Bool} {q : Wd} {b : Bool} {dd : Option (Bool × Bool)} (he : (en, q) ∈ es) (hn : ¬ heldA es b (befA q dd)) :
    (befA q dd).length ≤ 2 ∧ (2 ≤ (befA q dd).length → ∃ u, (some (!b), u) ∈ es ∧ u.Sublist (befA q dd)) := by
  have hq := H.le2 _ he
  dsimp only at hq
  -- if q lies at b itself and is a part of what is laid, it was held
  have same : ∀ w : Wd, q.Sublist w → w = befA q dd → en ≠ some b := fun w hw hwe e => hn ⟨q, e ▸ he, hwe ▸ hw⟩
  match dd, hn, same with
  | none, hn, same =>
    have hb : befA q none = q := rfl
    rw [hb] at hn same ⊢
    refine ⟨hq, fun h2 => ?_⟩
    cases en with
    | none => rw [show q = [] from H.cs _ he rfl] at h2; simp at h2
    | some s =>
      have hs : s = !b := by
        have := same q (List.Sublist.refl _) rfl
        cases s <;> cases b <;> simp_all
      exact ⟨q, hs ▸ he, List.Sublist.refl _⟩
  | some (false, s), hn, same =>
    have hb : befA q (some (false, s)) = if q.getLast? = some s then q.dropLast else q := rfl
    rw [hb] at hn same ⊢
    split
    · rw [List.length_dropLast]
      exact ⟨by omega, fun h => by omega⟩
    · rename_i hne
      rw [if_neg hne] at hn same
      refine ⟨hq, fun h2 => ?_⟩
      cases en with
      | none => rw [show q = [] from H.cs _ he rfl] at h2; simp at h2
      | some s' =>
        have hs : s' = !b := by
          have := same q (List.Sublist.refl _) rfl
          cases s' <;> cases b <;> simp_all
        exact ⟨q, hs ▸ he, List.Sublist.refl _⟩
  | some (true, s), hn, same =>
    have hb : befA q (some (true, s)) = s :: q := rfl
    rw [hb] at hn same ⊢
    cases en with
    | none =>
      rw [show q = [] from H.cs _ he rfl]
      exact ⟨by simp, fun h => by simp at h⟩
    | some s' =>
      have hs : s' = !b := by
        have := same (s :: q) (List.sublist_cons_self s q) rfl
        cases s' <;> cases b <;> simp_all
      have hq1 : ¬ 2 ≤ q.length := fun h2 => by
        obtain ⟨u, hu, hus⟩ := H.two s' q he h2
        refine hn ⟨u, ?_, hus.trans (List.sublist_cons_self s q)⟩
        rw [hs] at hu; simpa using hu
      exact ⟨by simp; omega, fun _ => ⟨q, hs ▸ he, List.sublist_cons_self s q⟩⟩
theorem IA.step {P : List Rl} {es : List EA} {d j : Nat} (H : IA P es d j) {en : Option Bool} {q : Wd} {r : Rl} (he : es[d]? = some (en, q)) (hr : P[j]? = some r) : IA P (layA en q es r) d (j + 1) := by
  have hem := List.mem_of_getElem? he
  have hrm := List.mem_of_getElem? hr
  have hd := (List.getElem?_eq_some_iff.mp he).1
  unfold layA
  by_cases hg : r.g = en
  · rw [if_pos hg]
    by_cases hh : heldB es r.b (befA q r.d) = true
    · rw [if_pos hh]
      refine { H with half := fun e hee k r' hk hr' hge => ?_ }
      by_cases hkj : k < j
      · exact H.half e hee k r' hkj hr' hge
      · obtain rfl : k = j := by omega
        rw [hr] at hr'; cases hr'
        rw [he] at hee; cases hee
        exact heldB_iff.mp hh
    · rw [if_neg hh]
      have hn : ¬ heldA es r.b (befA q r.d) := fun h => hh (heldB_iff.mpr h)
      obtain ⟨hl2, htw⟩ := new_ok H hem hn
      have hnew : heldA (es ++ [(some r.b, befA q r.d)]) r.b (befA q r.d) := ⟨_, List.mem_append_right _ (List.mem_singleton.mpr rfl), List.Sublist.refl _⟩
      have mono : ∀ {st w}, heldA es st w → heldA (es ++ [(some r.b, befA q r.d)]) st w := fun h => h.mono fun e he => List.mem_append_left _ he
      have old : ∀ {i : Nat} {e : EA}, i ≤ d → (es ++ [(some r.b, befA q r.d)])[i]? = some e → es[i]? = some e := fun hi h => by
        rwa [List.getElem?_append_left (Nat.lt_of_le_of_lt hi hd)] at h
      constructor
      · rw [List.getElem?_append_left (by omega)]; exact H.top
      · intro e h hne
        rcases List.mem_append.mp h with h | h
        · exact H.cs e h hne
        · rw [List.mem_singleton.mp h] at hne; cases hne
      · rw [List.nodup_append]
        refine ⟨H.nd, by simp, ?_⟩
        intro a ha b hb hab
        rw [List.mem_singleton.mp hb] at hab
        exact hn ⟨_, hab ▸ ha, List.Sublist.refl _⟩
      · intro e h
        rcases List.mem_append.mp h with h | h
        · exact H.le2 e h
        · rw [List.mem_singleton.mp h]; exact hl2
      · intro s w h h2
        rcases List.mem_append.mp h with h | h
        · obtain ⟨u, a, b⟩ := H.two s w h h2
          exact ⟨u, List.mem_append_left _ a, b⟩
        · have h3 := List.mem_singleton.mp h
          cases h3
          obtain ⟨u, a, b⟩ := htw h2
          exact ⟨u, List.mem_append_left _ a, b⟩
      · intro i e hi hie r' hr' hge
        exact mono (H.done i e hi (old (Nat.le_of_lt hi) hie) r' hr' hge)
      · intro e hie k r' hk hr' hge
        have hie' := old (Nat.le_refl _) hie
        by_cases hkj : k < j
        · exact mono (H.half e hie' k r' hkj hr' hge)
        · obtain rfl : k = j := by omega
          rw [hr] at hr'; cases hr'
          rw [he] at hie'; cases hie'
          exact hnew
      · intro i e hie
        by_cases hi : i < es.length
        · rw [List.getElem?_append_left hi] at hie
          rcases H.from_ i e hie with h | ⟨i', e', r', h1, h2, h3⟩
          · exact .inl h
          · exact .inr ⟨i', e', r', h1, by rw [List.getElem?_append_left (by omega)]; exact h2, h3⟩
        · rw [List.getElem?_append_right (by omega)] at hie
          have hi0 : i - es.length = 0 := by
            have := (List.getElem?_eq_some_iff.mp hie).1
            simp at this; omega
          rw [hi0] at hie
          cases hie
          exact .inr ⟨d, (en, q), r, by omega, by rw [List.getElem?_append_left hd]; exact he, hrm, hg, rfl, rfl⟩
      · simp; have := H.le; omega
  · rw [if_neg hg]
    refine { H with half := fun e hee k r' hk hr' hge => ?_ }
    by_cases hkj : k < j
    · exact H.half e hee k r' hkj hr' hge
    · obtain rfl : k = j := by omega
      rw [hr] at hr'; cases hr'
      rw [he] at hee; cases hee
      exact absurd hge hg
theorem IA.next {P : List Rl} {es : List EA} {d : Nat} (H : IA P es d P.length) (hd : d < es.length) : IA P es (d + 1) 0 where
  top := H.top
  cs := H.cs
  nd := H.nd
  le2 := H.le2
  two := H.two
  done := fun i e hi hie r hr hge => by
    by_cases hid : i < d
    · exact H.done i e hid hie r hr hge
    · obtain rfl : i = d := by omega
      obtain ⟨k, hk, e'⟩ := List.mem_iff_getElem.mp hr
      exact H.half e hie k r hk (by rw [List.getElem?_eq_getElem hk, e']) hge
  half := fun e _ k r hk => absurd hk (Nat.not_lt_zero _)
  from_ := H.from_
  le := hd
/-- all words of two letters and fewer -/
noncomputable def all2 : List Wd := [[], [false], [true], [false, false], [false, true], [true, false], [true, true]]
theorem mem_all2 {w : Wd} (h : w.length ≤ 2) : w ∈ all2 := by
  match w, h with
  | [], _ => simp [all2]
  | [a], _ => cases a <;> simp [all2]
  | [a, b], _ => cases a <;> cases b <;> simp [all2]
  | a :: b :: c :: r, h => simp at h
theorem nodup_le {α : Type} [DecidableEq α] : ∀ {l m : List α}, l.Nodup → (∀ x ∈ l, x ∈ m) → l.length ≤ m.length
  | [], _, _, _ => Nat.zero_le _
  | a :: l, m, hn, hs => by
    obtain ⟨h1, h2⟩ := List.nodup_cons.mp hn
    have ha := hs a (by simp)
    have ih := nodup_le (m := m.erase a) h2 fun x hx => by
      have hne : x ≠ a := fun e => h1 (e ▸ hx)
      rw [List.mem_erase_of_ne hne]
      exact hs x (List.mem_cons_of_mem _ hx)
    rw [List.length_erase_of_mem ha] at ih
    have : 0 < m.length := List.length_pos_of_mem ha
    rw [List.length_cons]; omega
theorem IA.short {P : List Rl} {es : List EA} {d j : Nat} (H : IA P es d j) : es.length ≤ 15 := by
  refine nodup_le (m := (none, []) :: ((all2.map fun w => (some false, w)) ++ all2.map fun w => (some true, w))) H.nd ?_
  intro e he
  obtain ⟨g, w⟩ := e
  have hw := mem_all2 (H.le2 _ he)
  cases g with
  | none => rw [show w = [] from H.cs _ he rfl]; simp
  | some s => cases s <;> simp [hw]
noncomputable def leadsA (P : List Rl) (n : Nat) (H : Option Bool → Wd → Prop) (st : Bool) (w : Wd) : Prop :=
  (∃ k, k < w.length ∧ H (some st) (w.eraseIdx k)) ∨ ∃ r ∈ P, r.b = st ∧ match r.d with
    | none => H r.g w
    | some (true, s) => w.head? = some s ∧ H r.g w.tail
    | some (false, s) => w.length < n ∧ H r.g (w ++ [s])
noncomputable def soundA (es : List EA) (g : Option Bool) (w : Wd) : Prop := ∀ st, g = some st → heldA es st w
theorem sub_snoc {q w : Wd} {s : Bool} (h : q.Sublist (w ++ [s])) : (if q.getLast? = some s then q.dropLast else q).Sublist w := by
  obtain ⟨l1, l2, rfl, h1, h2⟩ := List.sublist_append_iff.mp h
  match l2, h2 with
  | [], _ =>
    rw [List.append_nil]
    split
    · exact (List.dropLast_sublist l1).trans h1
    · exact h1
  | [a], h2 =>
    have : a = s := by
      have := h2.subset (List.mem_singleton.mpr rfl)
      exact List.mem_singleton.mp this
    subst this
    rw [if_pos (by simp), List.dropLast_concat]
    exact h1
  | a :: b :: r, h2 =>
    have := h2.length_le
    simp at this
theorem sound_step {P : List Rl} {es : List EA} {j n : Nat} (I : IA P es es.length j) {H : Option Bool → Wd → Prop} (hs : ∀ g w, H g w → soundA es g w) {st : Bool} {w : Wd} (h : leadsA P n H st w) : heldA es st w := by
  have clo : ∀ e ∈ es, ∀ r ∈ P, r.g = e.1 → heldA es r.b (befA e.2 r.d) := fun e he r hr hge => by
    obtain ⟨i, hi, e'⟩ := List.mem_iff_getElem.mp he
    exact I.done i e hi (by rw [List.getElem?_eq_getElem hi, e']) r hr hge
  have src : ∀ g w', H g w' → ∃ q, (g, q) ∈ es ∧ q.Sublist w' := fun g w' hw => by
    cases g with
    | none => exact ⟨[], List.mem_of_getElem? I.top, List.nil_sublist _⟩
    | some s => exact hs _ _ hw s rfl
  rcases h with ⟨k, hk, hH⟩ | ⟨r, hr, rfl, hH⟩
  · obtain ⟨u, a, b⟩ := hs _ _ hH st rfl
    exact ⟨u, a, b.trans (List.eraseIdx_sublist w k)⟩
  · obtain ⟨b, d, g⟩ := r
    match d, hH with
    | none, hH =>
      obtain ⟨q, hq, hqs⟩ := src _ _ hH
      obtain ⟨u, a, c⟩ := clo _ hq _ hr rfl
      exact ⟨u, a, c.trans hqs⟩
    | some (true, s), hH =>
      obtain ⟨hh, hH⟩ := hH
      obtain ⟨q, hq, hqs⟩ := src _ _ hH
      obtain ⟨u, a, c⟩ := clo _ hq _ hr rfl
      refine ⟨u, a, c.trans ?_⟩
      match w, hh, hqs with
      | x :: w', hh, hqs =>
        have : x = s := by simpa using hh
        subst this
        exact hqs.cons_cons _
    | some (false, s), hH =>
      obtain ⟨hh, hH⟩ := hH
      obtain ⟨q, hq, hqs⟩ := src _ _ hH
      obtain ⟨u, a, c⟩ := clo _ hq _ hr rfl
      exact ⟨u, a, c.trans (sub_snoc hqs)⟩
theorem erase_of_sub {u w : Wd} (h : u.Sublist w) : u ≠ w → ∃ k, k < w.length ∧ u.Sublist (w.eraseIdx k) := by
  induction h with
  | slnil => intro h; exact absurd rfl h
  | cons a h _ => intro _; exact ⟨0, by simp, by simpa using h⟩
  | cons_cons a h ih =>
    intro hne
    obtain ⟨k, hk, hs⟩ := ih fun e => hne (by rw [e])
    exact ⟨k + 1, by simp; omega, by simpa using hs.cons_cons a⟩
theorem up_closed {P : List Rl} {n : Nat} {H : Option Bool → Wd → Prop} (hcl : ∀ st w, w.length ≤ n → leadsA P n H st w → H (some st) w) {st : Bool} {u : Wd} (hu : H (some st) u) :
    ∀ (k : Nat) (w : Wd), w.length ≤ k → u.Sublist w → w.length ≤ n → H (some st) w := by
  intro k
  induction k with
  | zero =>
    intro w hw hs _
    have hw0 : w = [] := List.length_eq_zero_iff.mp (by omega)
    subst hw0
    rw [List.sublist_nil.mp hs] at hu
    exact hu
  | succ k ih =>
    intro w hw hs hn
    by_cases e : u = w
    · exact e ▸ hu
    · obtain ⟨i, hi, his⟩ := erase_of_sub hs e
      have hl : (w.eraseIdx i).length = w.length - 1 := List.length_eraseIdx_of_lt hi
      exact hcl st w hn (.inl ⟨i, hi, ih _ (by omega) his (by omega)⟩)
theorem complete {P : List Rl} {es : List EA} {d j n : Nat} (I : IA P es d j) {H : Option Bool → Wd → Prop} (h0 : ∀ w, w.length ≤ n → H none w) (hcl : ∀ st w, w.length ≤ n → leadsA P n H st w → H (some st) w) (hn : ∀ e ∈ es, e.2.length < n) :
    ∀ (i : Nat) (e : EA), es[i]? = some e → ∀ w, e.2.Sublist w → w.length ≤ n → H e.1 w := by
  intro i
  induction i using Nat.strongRecOn with
  | ind i ih =>
    intro e he
    have hem := List.mem_of_getElem? he
    have hlt := hn e hem
    obtain ⟨g, q⟩ := e
    dsimp only at hlt ⊢
    cases g with
    | none => exact fun w _ hw => h0 w hw
    | some st =>
      suffices hq : H (some st) q from fun w hs hw => up_closed hcl hq w.length w (Nat.le_refl _) hs hw
      rcases I.from_ i _ he with h | ⟨i', e', r, hi, he', hr, hg, hb, hq⟩
      · cases h
      · have ih' := ih i' hi e' he'
        have hlt' := hn e' (List.mem_of_getElem? he')
        obtain ⟨g', q'⟩ := e'
        obtain ⟨b, d, rg⟩ := r
        dsimp only at hg hb hq ih' hlt'
        cases hb
        subst hg
        refine hcl _ _ (Nat.le_of_lt hlt) (.inr ⟨_, hr, rfl, ?_⟩)
        match d, hq with
        | none, hq => rw [hq]; exact ih' q' (List.Sublist.refl _) (by omega)
        | some (true, s), hq => rw [hq]; exact ⟨rfl, ih' q' (List.Sublist.refl _) (by omega)⟩
        | some (false, s), hq =>
          refine ⟨hlt, ?_⟩
          have hq2 : q = if q'.getLast? = some s then q'.dropLast else q' := hq
          by_cases hl : q'.getLast? = some s
          · rw [if_pos hl] at hq2
            rw [hq2]
            have : q'.dropLast ++ [s] = q' := by
              obtain ⟨ys, rfl⟩ := List.getLast?_eq_some_iff.mp hl
              rw [List.dropLast_concat]
            rw [this]
            exact ih' q' (List.Sublist.refl _) (by omega)
          · rw [if_neg hl] at hq2
            rw [hq2]
            refine ih' _ (List.sublist_append_left _ _) ?_
            rw [List.length_append, List.length_singleton]; omega
theorem final_iff {P : List Rl} {es : List EA} {n : Nat} (I : IA P es es.length 0) {H : Option Bool → Wd → Prop} (h0 : ∀ w, w.length ≤ n → H none w) (hcl : ∀ st w, w.length ≤ n → leadsA P n H st w → H (some st) w) (hn : ∀ e ∈ es, e.2.length < n)
    (hs : ∀ g w, H g w → soundA es g w) {st : Bool} {w : Wd} (hw : w.length ≤ n) : heldA es st w ↔ H (some st) w := by
  refine ⟨?_, fun h => hs _ _ h st rfl⟩
  rintro ⟨u, hu, hus⟩
  obtain ⟨i, hi, e'⟩ := List.mem_iff_getElem.mp hu
  exact complete I h0 hcl hn i (some st, u) (by rw [List.getElem?_eq_getElem hi, e']) w hus hw
end Mine
end

section
open PySem PySem.W PyProof.Rows PySem.Builtin PySem.Builtin.Str
set_option maxRecDepth 100000
namespace Mine
/-- letters one behind the other: a blank, the sign, a blank -/
noncomputable def flatL : List (List Nat) → List Nat
  | [] => []
  | M :: r => 32 :: (M ++ 32 :: flatL r)
theorem flatL_append : ∀ a b, flatL (a ++ b) = flatL a ++ flatL b
  | [], _ => rfl
  | M :: r, b => by
    show 32 :: (M ++ 32 :: flatL (r ++ b)) = (32 :: (M ++ 32 :: flatL r)) ++ flatL b
    rw [flatL_append r b]; simp
theorem uniqL {R : List Nat} : ∀ (M Y : List Nat), 32 ∉ M → 32 ∉ Y → (M ++ 32 :: R).take (Y.length + 1) = Y ++ [32] → M = Y
  | [], [], _, _, _ => rfl
  | [], y :: Y, _, hy, h => by
    simp only [List.nil_append, List.take_succ_cons, List.cons_append, List.cons.injEq] at h
    exact absurd (by rw [← h.1]; simp) hy
  | a :: M, [], hm, _, h => by
    simp only [List.cons_append, List.length_nil, List.take_succ_cons, List.take_zero, List.nil_append, List.cons.injEq, and_true] at h
    exact absurd (by rw [h]; simp) hm
  | a :: M, y :: Y, hm, hy, h => by
    simp only [List.cons_append, List.length_cons, List.take_succ_cons, List.cons.injEq] at h
    rw [h.1, uniqL M Y (fun q => hm (List.mem_cons_of_mem _ q)) (fun q => hy (List.mem_cons_of_mem _ q)) h.2]
noncomputable def GoodL (M : List Nat) : Prop := M ≠ [] ∧ 32 ∉ M
theorem hit_only {Y : List Nat} (hY : GoodL Y) : ∀ (Ms : List (List Nat)) (i : Nat), (∀ M ∈ Ms, GoodL M) → ((flatL Ms).drop i).take (Y.length + 2) = 32 :: (Y ++ [32]) → ∃ t, Ms[t]? = some Y ∧ i = (flatL (Ms.take t)).length
  | [], i, _, h => by simp [flatL] at h
  | M :: r, 0, hg, h => by
    have h' : (32 :: (M ++ 32 :: flatL r)).take (Y.length + 1 + 1) = 32 :: (Y ++ [32]) := h
    rw [List.take_succ_cons, List.cons.injEq] at h'
    exact ⟨0, by rw [uniqL M Y (hg M (by simp)).2 hY.2 h'.2]; rfl, rfl⟩
  | M :: r, i + 1, hg, h => by
    have h' : ((M ++ 32 :: flatL r).drop i).take (Y.length + 2) = 32 :: (Y ++ [32]) := h
    by_cases h1 : i < M.length
    · exfalso
      rw [List.drop_append_of_le_length (Nat.le_of_lt h1), List.drop_eq_getElem_cons h1, List.cons_append, List.take_succ_cons, List.cons.injEq] at h'
      exact (hg M (by simp)).2 (h'.1 ▸ List.getElem_mem h1)
    · by_cases h2 : i = M.length
      · exfalso
        subst h2
        rw [List.drop_left, List.take_succ_cons, List.cons.injEq] at h'
        obtain ⟨y, Y', rfl⟩ := List.exists_cons_of_ne_nil hY.1
        cases r with
        | nil => simp [flatL] at h'
        | cons M' r' =>
          have h3 := h'.2
          simp only [flatL, List.length_cons, List.take_succ_cons, List.cons_append, List.cons.injEq] at h3
          exact hY.2 (by rw [← h3.1]; simp)
      · obtain ⟨k, rfl⟩ : ∃ k, i = M.length + (k + 1) := ⟨i - M.length - 1, by omega⟩
        rw [List.drop_append, List.drop_of_length_le (by omega), List.nil_append, show M.length + (k + 1) - M.length = k + 1 by omega, List.drop_succ_cons] at h'
        obtain ⟨t, ht, e⟩ := hit_only hY r k (fun M hM => hg M (List.mem_cons_of_mem _ hM)) h'
        refine ⟨t + 1, ht, ?_⟩
        rw [List.take_succ_cons]
        simp only [flatL, List.length_cons, List.length_append]
        omega
theorem hit_at {Y : List Nat} : ∀ (Ms : List (List Nat)) (t : Nat), Ms[t]? = some Y → ((flatL Ms).drop (flatL (Ms.take t)).length).take (Y.length + 2) = 32 :: (Y ++ [32]) ∧ (flatL (Ms.take t)).length + (Y.length + 2) ≤ (flatL Ms).length := by
  intro Ms t h
  obtain ⟨ht, e⟩ := List.getElem?_eq_some_iff.mp h
  have hsp : Ms = Ms.take t ++ Y :: Ms.drop (t + 1) := by
    rw [← e, ← List.drop_eq_getElem_cons ht, List.take_append_drop]
  have hf : flatL Ms = flatL (Ms.take t) ++ (32 :: (Y ++ 32 :: flatL (Ms.drop (t + 1)))) := by
    conv => lhs; rw [hsp]
    rw [flatL_append, flatL]
  constructor
  · rw [hf, List.drop_left]
    have : (32 :: (Y ++ 32 :: flatL (Ms.drop (t + 1)))) = (32 :: (Y ++ [32])) ++ flatL (Ms.drop (t + 1)) := by simp
    rw [this, List.take_left' (by simp)]
  · rw [hf, List.length_append]; simp
theorem flat_lt {Ms : List (List Nat)} : ∀ {k t : Nat}, k < t → t ≤ Ms.length → (flatL (Ms.take k)).length < (flatL (Ms.take t)).length := by
  intro k t hk ht
  have : Ms.take t = Ms.take k ++ (Ms.drop k).take (t - k) := by
    have h1 : t = k + (t - k) := by omega
    conv => lhs; rw [h1]
    rw [List.take_add]
  rw [this, flatL_append, List.length_append]
  have h2 : (Ms.drop k).take (t - k) ≠ [] := by
    intro e
    have := congrArg List.length e
    simp at this; omega
  obtain ⟨a, l, e⟩ := List.exists_cons_of_ne_nil h2
  rw [e]; simp [flatL]
theorem flat_le {Ms : List (List Nat)} {k t : Nat} (hk : k ≤ t) (ht : t ≤ Ms.length) : (flatL (Ms.take k)).length ≤ (flatL (Ms.take t)).length := by
  by_cases e : k = t
  · rw [e]; exact Nat.le_refl _
  · exact Nat.le_of_lt (flat_lt (by omega) ht)
theorem flat_inj {Ms : List (List Nat)} {k t : Nat} (hk : k ≤ Ms.length) (ht : t ≤ Ms.length) (h : (flatL (Ms.take k)).length ≤ (flatL (Ms.take t)).length) : k ≤ t := by
  by_cases e : k ≤ t
  · exact e
  · have := flat_lt (Ms := Ms) (k := t) (t := k) (by omega) hk
    omega
theorem fromIndex_nat (n p : Nat) : fromIndex n (p : Int) = p := by
  unfold fromIndex
  have : ¬ ((p : Int) < 0) := by omega
  rw [if_neg this]; omega
theorem find4_spec (x y : Str) (p : Nat) :
    (find4 x y (p : Int) (x.length : Int) = -1 ∧ ∀ i, p ≤ i → ¬ StrLaws.At x y x.length i) ∨
    ∃ i : Nat, find4 x y (p : Int) (x.length : Int) = (i : Int) ∧ p ≤ i ∧ StrLaws.At x y x.length i ∧ ∀ k, p ≤ k → k < i → ¬ StrLaws.At x y x.length k := by
  unfold find4
  rw [fromIndex_nat, fromIndex_nat, Nat.min_self]
  rcases StrLaws.occ_head_from x y p 1 (Nat.le_refl 1) with ⟨h0, hn⟩ | ⟨i, r, h0, h1, h2, h3⟩
  · rw [h0]; exact .inl ⟨rfl, hn⟩
  · rw [h0]; exact .inr ⟨i, rfl, h1, h2, h3⟩
noncomputable def codes (x : Str) : List Nat := x.cps.toList
theorem codes_length (x : Str) : (codes x).length = x.length := by simp [codes, Str.length]
theorem at_iff {x y : Str} {i : Nat} : StrLaws.At x y x.length i ↔ i + y.length ≤ x.length ∧ ((codes x).drop i).take y.length = codes y := by
  unfold StrLaws.At
  rw [StrLaws.subAt_eq]
  exact and_congr Iff.rfl beq_iff_eq
theorem find4_empty {x y : Str} (hy : y.length = 0) {p : Nat} (hp : p ≤ x.length) : find4 x y (p : Int) (x.length : Int) = (p : Int) := by
  have hat : ∀ i, i ≤ x.length → StrLaws.At x y x.length i := fun i hi => by
    rw [at_iff]
    have hc : codes y = [] := List.length_eq_zero_iff.mp (by rw [codes_length]; exact hy)
    rw [hy, hc]; simp; exact hi
  rcases find4_spec x y p with ⟨_, hn⟩ | ⟨i, e, h1, h2, h3⟩
  · exact absurd (hat p hp) (hn p (Nat.le_refl _))
  · rw [e]
    by_cases hip : i = p
    · rw [hip]
    · exact absurd (hat p hp) (h3 p (Nat.le_refl _) (by omega))
/-- the search for letters is the search for a sub-word -/
theorem seek_letters {got : Str} {Ms : List (List Nat)} (hgot : codes got = flatL Ms) (hgood : ∀ M ∈ Ms, GoodL M) {e : Str} (he : e.length = 0) :
    ∀ (Ys : List Str) (ys : List (List Nat)), ys.length = Ys.length → (∀ (i : Nat) Y M, Ys[i]? = some Y → ys[i]? = some M → codes Y = 32 :: (M ++ [32]) ∧ GoodL M) → ∀ k, k ≤ Ms.length →
      seek got ((flatL (Ms.take k)).length : Nat) (Ys ++ [e]) = ys.isSublist (Ms.drop k)
  | [], [], _, _, k, hk => by
    show (if find4 got e ((flatL (Ms.take k)).length : Nat) got.length < 0 then false else seek got _ []) = _
    have hlen : (flatL (Ms.take k)).length ≤ got.length := by
      rw [← codes_length, hgot]
      have := flat_le (Ms := Ms) (k := k) (t := Ms.length) hk (Nat.le_refl _)
      rwa [List.take_length] at this
    rw [find4_empty he hlen, if_neg (by omega)]
    simp [seek]
  | Y :: Ys, M :: ys, hl, hY, k, hk => by
    obtain ⟨hYc, hYg⟩ := hY 0 Y M rfl rfl
    have hYl : Y.length = M.length + 2 := by rw [← codes_length, hYc]; simp
    have ih := seek_letters hgot hgood he Ys ys (by simpa using hl) (fun i Y' M' h1 h2 => hY (i + 1) Y' M' h1 h2)
    -- occurrences stand at boundaries
    have only : ∀ i, StrLaws.At got Y got.length i → ∃ t, Ms[t]? = some M ∧ i = (flatL (Ms.take t)).length := fun i hi => by
      have := (at_iff.mp hi).2
      rw [hgot, hYl, hYc] at this
      exact hit_only hYg Ms i hgood this
    have here : ∀ t, Ms[t]? = some M → StrLaws.At got Y got.length (flatL (Ms.take t)).length := fun t ht => by
      have := hit_at Ms t ht
      rw [at_iff, hgot, hYl, hYc, ← codes_length, hgot]
      exact ⟨this.2, this.1⟩
    show (if find4 got Y ((flatL (Ms.take k)).length : Nat) got.length < 0 then false else seek got (find4 got Y ((flatL (Ms.take k)).length : Nat) got.length + Y.length) (Ys ++ [e])) = _
    -- the greedy sub-word, by where the letter first stands
    have greedy : ∀ (l : List (List Nat)), (M ∉ l → (M :: ys).isSublist l = false) ∧ ∀ t, l[t]? = some M → (∀ t' < t, l[t']? ≠ some M) → (M :: ys).isSublist l = ys.isSublist (l.drop (t + 1)) := by
      intro l
      induction l with
      | nil => exact ⟨fun _ => rfl, fun t h => by simp at h⟩
      | cons a l ihl =>
        have hun : (M :: ys).isSublist (a :: l) = if M == a then ys.isSublist l else (M :: ys).isSublist l := by rw [List.isSublist]
        constructor
        · intro hn
          simp only [List.mem_cons, not_or] at hn
          rw [hun, if_neg (by simpa using hn.1)]
          exact ihl.1 hn.2
        · intro t ht hb
          cases t with
          | zero =>
            have : a = M := by simpa using ht
            rw [hun, if_pos (by simp [this])]; rfl
          | succ t =>
            have hna : ¬ a = M := by simpa using hb 0 (by omega)
            rw [hun, if_neg (by simpa using fun h => hna h.symm)]
            exact ihl.2 t (by simpa using ht) fun t' ht' => by simpa using hb (t' + 1) (by omega)
    obtain ⟨g1, g2⟩ := greedy (Ms.drop k)
    rcases find4_spec got Y (flatL (Ms.take k)).length with ⟨e1, hn⟩ | ⟨i, e1, h1, h2, h3⟩
    · rw [e1, if_pos (by decide)]
      refine (g1 fun hm => ?_).symm
      obtain ⟨j, hj, ej⟩ := List.mem_iff_getElem.mp hm
      have hj' : Ms[k + j]? = some M := by rw [← List.getElem?_drop, List.getElem?_eq_getElem hj, ej]
      exact hn _ (flat_le (by omega) (by have := (List.getElem?_eq_some_iff.mp hj').1; omega)) (here _ hj')
    · rw [e1, if_neg (by omega)]
      obtain ⟨t, ht, rfl⟩ := only i h2
      have htl := (List.getElem?_eq_some_iff.mp ht).1
      have hkt : k ≤ t := flat_inj hk (Nat.le_of_lt htl) h1
      have hd : (Ms.drop k)[t - k]? = some M := by rw [List.getElem?_drop, show k + (t - k) = t by omega]; exact ht
      rw [g2 (t - k) hd fun t' ht' hm => ?_]
      · have e2 : (((flatL (Ms.take t)).length : Nat) : Int) + (Y.length : Int) = ((flatL (Ms.take (t + 1))).length : Nat) := by
          rw [take_snoc ht, flatL_append, List.length_append, hYl]
          simp [flatL]; omega
        rw [e2, ih (t + 1) htl, List.drop_drop]
        congr 2; omega
      · rw [List.getElem?_drop] at hm
        exact h3 _ (flat_le (by omega) (by omega)) (flat_lt (by omega) (Nat.le_of_lt htl)) (here _ hm)
  | [], _ :: _, hl, _, _, _ => by simp at hl
  | _ :: _, [], hl, _, _, _ => by simp at hl
end Mine
end

section
open PySem PySem.W PyProof.Rows PySem.Builtin PySem.Builtin.Str
set_option maxRecDepth 100000
namespace Mine
noncomputable def signs8 : List Str := [Str.ofString "+", Str.ofString "-", Str.ofString "**", Str.ofString "//", Str.ofString "|", Str.ofString "~", Str.ofString "->", Str.ofString "!="]
noncomputable def ltr (m : Str) : Str := Str.ofString " " ++ m ++ Str.ofString " "
/-- what is decided of one letter, and of two -/
noncomputable def wordChk (x : Str) (parts : List Str) (n : Nat) : Bool :=
  decide (x.length ≤ 100) && decide ((Txt.replace x (Str.ofString "  ") (Str.ofString " ... ")).length ≤ 500) && decide ((wantOf x).length ≤ 1000) && !(occurrences (wantOf x) (Str.ofString "...") 0 (wantOf x).length 1).isEmpty &&
  (Txt.split (wantOf x) (Str.ofString "...") == parts) && decide (x.length ≤ 1000) && sreNone codeV x && decide (Txt.count x (Str.ofString " ") = 2 * (n : Int))
theorem chk0 : wordChk (Str.ofString "") [Str.empty, Str.empty, Str.empty] 0 = true := by decide +kernel
theorem chk1 : ∀ a ∈ signs8, wordChk (ltr a) [Str.empty, ltr a, Str.empty] 1 = true := by decide +kernel
theorem chk2 : ∀ a ∈ signs8, ∀ b ∈ signs8, wordChk (ltr a ++ ltr b) [Str.empty, ltr a, ltr b, Str.empty] 2 = true := by decide +kernel
theorem end0 : ∀ a ∈ signs8, Txt.endswith (Str.ofString "") (ltr a) = false := by decide +kernel
theorem end1 : ∀ a ∈ signs8, ∀ c ∈ signs8, Txt.endswith (ltr a) (ltr c) = decide (a = c) := by decide +kernel
theorem end2 : ∀ a ∈ signs8, ∀ b ∈ signs8, ∀ c ∈ signs8, Txt.endswith (ltr a ++ ltr b) (ltr c) = decide (b = c) := by decide +kernel
theorem cut1 : ∀ a ∈ signs8, Txt.slice (ltr a) none (some (((ltr a).length : Int) - ((ltr a).length : Int))) = Str.ofString "" := by decide +kernel
theorem cut2 : ∀ a ∈ signs8, ∀ b ∈ signs8, Txt.slice (ltr a ++ ltr b) none (some (((ltr a ++ ltr b).length : Int) - ((ltr b).length : Int))) = ltr a := by decide +kernel
theorem sgn_ok : ∀ a ∈ signs8, 1 ≤ a.length ∧ a.length ≤ 2 ∧ 32 ∉ a.cps.toList := by decide +kernel
noncomputable def goals6 : List Str := [Str.ofString "a", Str.ofString "b", Str.ofString "c", Str.ofString "A", Str.ofString "B", Str.ofString "C"]
noncomputable def valChk (v : Str) (st : Int × Str × Str) : Bool :=
  decide (v.length ≤ 1000) && sreNone codeV v && (piecesAt v (v.length + 3) 0).all (fun p => decide (1 ≤ p.length) && decide (p.length ≤ 300)) && decide (stepOf v = st)
theorem val0 : ∀ g ∈ goals6, valChk g (0, Str.ofString "", Txt.lower g) = true := by decide +kernel
theorem val1 : ∀ a ∈ signs8, ∀ g ∈ goals6, valChk (Str.ofString "<<" ++ a ++ g) (33, ltr a, Txt.lower g) = true := by decide +kernel
theorem val2 : ∀ a ∈ signs8, ∀ g ∈ goals6, valChk (Str.ofString ">>" ++ a ++ g) (34, ltr a, Txt.lower g) = true := by decide +kernel
end Mine
end

section
open PySem PySem.W PyProof.Rows PySem.Builtin PySem.Builtin.Str
set_option maxRecDepth 100000
namespace Mine
noncomputable def nm (b : Bool) : Str := if b then Str.ofString "b" else Str.ofString "a"
noncomputable def gn : Option Bool → Str
  | none => Str.ofString "c"
  | some b => nm b
noncomputable def msg (m0 m1 : Str) (s : Bool) : Str := if s then m1 else m0
noncomputable def encT (m0 m1 : Str) : Wd → Str
  | [] => Str.ofString ""
  | s :: w => ltr (msg m0 m1 s) ++ encT m0 m1 w
noncomputable def encE (m0 m1 : Str) (e : EA) : Str × Str := (gn e.1, encT m0 m1 e.2)
noncomputable def stepA (m0 m1 : Str) (r : Rl) : PStep := match r.d with
  | none => ⟨nm r.b, 0, Str.ofString "", gn r.g⟩
  | some (false, s) => ⟨nm r.b, 33, ltr (msg m0 m1 s), gn r.g⟩
  | some (true, s) => ⟨nm r.b, 34, ltr (msg m0 m1 s), gn r.g⟩
theorem str0 : Str.ofString "" = Str.empty := by decide +kernel
theorem app0 (x : Str) : x ++ Str.ofString "" = x := by rw [str0, Str.append_empty]
theorem gn_nm : ∀ g : Option Bool, ∀ b : Bool, (Txt.lower (gn g) == Txt.lower (Txt.upper (nm b))) = decide (g = some b)
  | none, false => by decide +kernel
  | none, true => by decide +kernel
  | some false, false => by decide +kernel
  | some false, true => by decide +kernel
  | some true, false => by decide +kernel
  | some true, true => by decide +kernel
theorem gn_inj : ∀ g g' : Option Bool, gn g = gn g' → g = g'
  | none, none, _ => rfl
  | none, some false, h => absurd h (by decide +kernel)
  | none, some true, h => absurd h (by decide +kernel)
  | some false, none, h => absurd h (by decide +kernel)
  | some true, none, h => absurd h (by decide +kernel)
  | some false, some false, _ => rfl
  | some false, some true, h => absurd h (by decide +kernel)
  | some true, some false, h => absurd h (by decide +kernel)
  | some true, some true, _ => rfl
section
variable {m0 m1 : Str} (h0 : m0 ∈ signs8) (h1 : m1 ∈ signs8) (hne : m0 ≠ m1)
include h0 h1
theorem msg_in (s : Bool) : msg m0 m1 s ∈ signs8 := by cases s <;> assumption
include hne in
theorem msg_inj {s s' : Bool} (h : msg m0 m1 s = msg m0 m1 s') : s = s' := by
  cases s <;> cases s'
  · rfl
  · exact absurd h hne
  · exact absurd h.symm hne
  · rfl
theorem enc_codes : ∀ w : Wd, codes (encT m0 m1 w) = flatL (w.map fun s => codes (msg m0 m1 s))
  | [] => rfl
  | s :: w => by
    have ih := enc_codes w
    unfold codes at ih ⊢
    show ((Str.ofString " " ++ msg m0 m1 s ++ Str.ofString " ") ++ encT m0 m1 w).cps.toList = 32 :: ((msg m0 m1 s).cps.toList ++ 32 :: flatL (w.map fun s => (msg m0 m1 s).cps.toList))
    rw [← ih]
    simp only [Str.cps_append, Array.toList_append]
    have e : (Str.ofString " ").cps.toList = [32] := by decide +kernel
    rw [e]; simp
theorem msg_good (s : Bool) : GoodL (codes (msg m0 m1 s)) := by
  obtain ⟨a, _, c⟩ := sgn_ok _ (msg_in h0 h1 s)
  refine ⟨fun e => ?_, c⟩
  have := congrArg List.length e
  rw [codes_length] at this
  simp at this; omega
theorem codes_inj {x y : Str} (h : codes x = codes y) : x = y := Str.ext' (Array.toList_inj.mp h)
theorem ltr_codes (x : Str) : codes (ltr x) = 32 :: (codes x ++ [32]) := by
  unfold codes ltr
  simp only [Str.cps_append, Array.toList_append]
  have e : (Str.ofString " ").cps.toList = [32] := by decide +kernel
  rw [e]; simp
include hne in
theorem sub_map {u w : Wd} : (u.map fun s => codes (msg m0 m1 s)).isSublist (w.map fun s => codes (msg m0 m1 s)) = u.isSublist w := by
  induction w generalizing u with
  | nil => cases u <;> rfl
  | cons a w ih =>
    cases u with
    | nil => simp [List.isSublist]
    | cons b u =>
      have hab : (codes (msg m0 m1 b) == codes (msg m0 m1 a)) = (b == a) := by
        by_cases e : b = a
        · simp [e]
        · have : codes (msg m0 m1 b) ≠ codes (msg m0 m1 a) := fun q => e (msg_inj h0 h1 hne (codes_inj h0 h1 q))
          rw [beq_eq_false_iff_ne.mpr this, beq_eq_false_iff_ne.mpr e]
      simp only [List.map_cons, List.isSublist, hab]
      have i1 := ih (u := u)
      have i2 := ih (u := b :: u)
      rw [List.map_cons] at i2
      rw [i1, i2]
theorem chk_word {u : Wd} (hu : u.length ≤ 2) : ∃ Ys : List Str, Txt.split (wantOf (encT m0 m1 u)) (Str.ofString "...") = Str.empty :: (Ys ++ [Str.empty]) ∧ (u ≠ [] → Ys = u.map fun s => ltr (msg m0 m1 s)) ∧ (u = [] → Ys = [Str.empty]) ∧
    WantOK (encT m0 m1 u) ∧ GoodV (encT m0 m1 u) ∧ Txt.count (encT m0 m1 u) (Str.ofString " ") = 2 * (u.length : Int) := by
  have fin : ∀ (x : Str) (Ys : List Str) (n : Nat), wordChk x (Str.empty :: (Ys ++ [Str.empty])) n = true → Txt.split (wantOf x) (Str.ofString "...") = Str.empty :: (Ys ++ [Str.empty]) ∧ WantOK x ∧ GoodV x ∧ Txt.count x (Str.ofString " ") = 2 * (n : Int) := by
    intro x Ys n h
    unfold wordChk at h
    simp only [Bool.and_eq_true, decide_eq_true_eq, beq_iff_eq, Bool.not_eq_true'] at h
    obtain ⟨⟨⟨⟨⟨⟨⟨a, b⟩, c⟩, d⟩, e⟩, f⟩, g⟩, i⟩ := h
    exact ⟨e, ⟨a, b, c, d, Ys, e⟩, ⟨f, g⟩, i⟩
  match u, hu with
  | [], _ =>
    obtain ⟨a, b, c, d⟩ := fin (Str.ofString "") [Str.empty] 0 chk0
    exact ⟨_, a, fun h => absurd rfl h, fun _ => rfl, b, c, d⟩
  | [s], _ =>
    have hx : encT m0 m1 [s] = ltr (msg m0 m1 s) := by show ltr _ ++ Str.ofString "" = _; rw [app0]
    obtain ⟨a, b, c, d⟩ := fin (ltr (msg m0 m1 s)) [ltr (msg m0 m1 s)] 1 (chk1 _ (msg_in h0 h1 s))
    rw [hx]
    exact ⟨_, a, fun _ => rfl, (fun h => by cases h), b, c, d⟩
  | [s, t], _ =>
    have hx : encT m0 m1 [s, t] = ltr (msg m0 m1 s) ++ ltr (msg m0 m1 t) := by show ltr _ ++ (ltr _ ++ Str.ofString "") = _; rw [app0]
    obtain ⟨a, b, c, d⟩ := fin (ltr (msg m0 m1 s) ++ ltr (msg m0 m1 t)) [ltr (msg m0 m1 s), ltr (msg m0 m1 t)] 2 (chk2 _ (msg_in h0 h1 s) _ (msg_in h0 h1 t))
    rw [hx]
    exact ⟨_, a, fun _ => rfl, (fun h => by cases h), b, c, d⟩
  | _ :: _ :: _ :: _, h => simp at h
include hne in
theorem finds_enc {u w : Wd} (hu : u.length ≤ 2) : finds (encT m0 m1 u) (encT m0 m1 w) = u.isSublist w := by
  obtain ⟨Ys, hs, hy, hz, _⟩ := chk_word h0 h1 hu
  unfold finds
  rw [hs]
  have he : Str.empty.length = 0 := rfl
  have hstart : find4 (encT m0 m1 w) Str.empty ((0 : Nat) : Int) (encT m0 m1 w).length = ((0 : Nat) : Int) := find4_empty he (Nat.zero_le _)
  show (if find4 (encT m0 m1 w) Str.empty ((0 : Nat) : Int) (encT m0 m1 w).length < 0 then false else seek (encT m0 m1 w) (find4 (encT m0 m1 w) Str.empty ((0 : Nat) : Int) (encT m0 m1 w).length + ((Str.empty.length : Nat) : Int)) (Ys ++ [Str.empty])) = _
  rw [hstart, if_neg (by decide), he]
  by_cases hu0 : u = []
  · rw [hz hu0, hu0]
    have e1 : find4 (encT m0 m1 w) Str.empty (((0 : Nat) : Int) + ((0 : Nat) : Int)) (encT m0 m1 w).length = 0 := hstart
    have : seek (encT m0 m1 w) (((0 : Nat) : Int) + ((0 : Nat) : Int)) ([Str.empty] ++ [Str.empty]) = true := by
      show (if find4 (encT m0 m1 w) Str.empty (((0 : Nat) : Int) + ((0 : Nat) : Int)) (encT m0 m1 w).length < 0 then false else (if find4 (encT m0 m1 w) Str.empty (find4 (encT m0 m1 w) Str.empty (((0 : Nat) : Int) + ((0 : Nat) : Int)) (encT m0 m1 w).length + ((Str.empty.length : Nat) : Int)) (encT m0 m1 w).length < 0 then false else true)) = true
      rw [e1, if_neg (by decide), he]
      have e2 : find4 (encT m0 m1 w) Str.empty (0 + ((0 : Nat) : Int)) (encT m0 m1 w).length = 0 := hstart
      rw [e2, if_neg (by decide)]
    rw [this]
    cases w <;> rfl
  · rw [hy hu0]
    have key := seek_letters (got := encT m0 m1 w) (enc_codes h0 h1 w) (fun M hM => by
      obtain ⟨s, _, rfl⟩ := List.mem_map.mp hM
      exact msg_good h0 h1 s) he (u.map fun s => ltr (msg m0 m1 s)) (u.map fun s => codes (msg m0 m1 s)) (by simp) (fun i Y M hY hM => by
        rw [List.getElem?_map] at hY hM
        cases hi : u[i]? with
        | none => rw [hi] at hY; cases hY
        | some s =>
          rw [hi] at hY hM
          cases hY; cases hM
          exact ⟨ltr_codes h0 h1 _, msg_good h0 h1 s⟩) 0 (Nat.zero_le _)
    rw [List.drop_zero, sub_map h0 h1 hne] at key
    exact key
include hne in
theorem before_enc {q : Wd} (hq : q.length ≤ 2) (r : Rl) : beforeOf (encT m0 m1 q) (stepA m0 m1 r) = encT m0 m1 (befA q r.d) := by
  obtain ⟨b, d, g⟩ := r
  match d with
  | none => rfl
  | some (true, s) => rfl
  | some (false, s) =>
    have hs := msg_in h0 h1 s
    show (if (33 : Int) = 34 then ltr (msg m0 m1 s) ++ encT m0 m1 q else if (33 : Int) = 33 ∧ Txt.endswith (encT m0 m1 q) (ltr (msg m0 m1 s)) = true then Txt.slice (encT m0 m1 q) none (some (((encT m0 m1 q).length : Int) - ((ltr (msg m0 m1 s)).length : Int))) else encT m0 m1 q) = encT m0 m1 (if q.getLast? = some s then q.dropLast else q)
    rw [if_neg (by decide)]
    match q, hq with
    | [], _ =>
      have e : Txt.endswith (encT m0 m1 []) (ltr (msg m0 m1 s)) = false := end0 _ hs
      rw [e, if_neg (by simp), if_neg (by simp)]
    | [t], _ =>
      have hx : encT m0 m1 [t] = ltr (msg m0 m1 t) := by show ltr _ ++ Str.ofString "" = _; rw [app0]
      have ht := msg_in h0 h1 t
      have e : Txt.endswith (encT m0 m1 [t]) (ltr (msg m0 m1 s)) = decide (msg m0 m1 t = msg m0 m1 s) := by rw [hx]; exact end1 _ ht _ hs
      by_cases hts : t = s
      · subst hts
        rw [e, if_pos (by simp), if_pos (by simp), hx]
        exact cut1 _ ht
      · have : ¬ msg m0 m1 t = msg m0 m1 s := fun q => hts (msg_inj h0 h1 hne q)
        rw [e, if_neg (by simp [this]), if_neg (by simpa using hts)]
    | [a, t], _ =>
      have hx : encT m0 m1 [a, t] = ltr (msg m0 m1 a) ++ ltr (msg m0 m1 t) := by show ltr _ ++ (ltr _ ++ Str.ofString "") = _; rw [app0]
      have hx1 : encT m0 m1 [a] = ltr (msg m0 m1 a) := by show ltr _ ++ Str.ofString "" = _; rw [app0]
      have ha := msg_in h0 h1 a
      have ht := msg_in h0 h1 t
      have e : Txt.endswith (encT m0 m1 [a, t]) (ltr (msg m0 m1 s)) = decide (msg m0 m1 t = msg m0 m1 s) := by rw [hx]; exact end2 _ ha _ ht _ hs
      by_cases hts : t = s
      · subst hts
        rw [e, if_pos (by simp), if_pos (by simp), hx]
        show _ = encT m0 m1 [a]
        rw [hx1]
        exact cut2 _ ha _ ht
      · have : ¬ msg m0 m1 t = msg m0 m1 s := fun q => hts (msg_inj h0 h1 hne q)
        rw [e, if_neg (by simp [this]), if_neg (by simpa using hts)]
    | _ :: _ :: _ :: _, h => simp at h
include hne in
theorem held_enc {es : List EA} (hes : ∀ e ∈ es, e.2.length ≤ 2) (b : Bool) (w : Wd) : ((pickS (Txt.upper (nm b)) (es.map (encE m0 m1))).any fun x => finds x (encT m0 m1 w)) = heldB es b w := by
  unfold pickS heldB
  rw [List.filter_map, List.map_map, List.any_map]
  induction es with
  | nil => rfl
  | cons e es ih =>
    have ih' := ih fun e he => hes e (List.mem_cons_of_mem _ he)
    obtain ⟨g, u⟩ := e
    have hu : u.length ≤ 2 := hes (g, u) (by simp)
    have hg := gn_nm g b
    rw [List.any_cons, ← ih']
    by_cases h : g = some b
    · rw [List.filter_cons_of_pos (by show (Txt.lower (gn g) == Txt.lower (Txt.upper (nm b))) = true; rw [hg]; simpa using h), List.any_cons]
      congr 1
      show finds (encT m0 m1 u) (encT m0 m1 w) = (g == some b && u.isSublist w)
      rw [finds_enc h0 h1 hne hu, h]; simp
    · rw [List.filter_cons_of_neg (by show ¬ (Txt.lower (gn g) == Txt.lower (Txt.upper (nm b))) = true; rw [hg]; simpa using h)]
      have : ((g, u).1 == some b && (g, u).2.isSublist w) = false := by
        have : (g == some b) = false := by simpa using h
        show (g == some b && u.isSublist w) = false
        rw [this]; rfl
      rw [this, Bool.false_or]
theorem stepA_st (r : Rl) : (stepA m0 m1 r).st = nm r.b := by
  obtain ⟨b, d, g⟩ := r
  match d with
  | none => rfl
  | some (true, s) => rfl
  | some (false, s) => rfl
theorem stepA_gl (r : Rl) : (stepA m0 m1 r).gl = gn r.g := by
  obtain ⟨b, d, g⟩ := r
  match d with
  | none => rfl
  | some (true, s) => rfl
  | some (false, s) => rfl
include hne in
theorem layF_enc {es : List EA} (hes : ∀ e ∈ es, e.2.length ≤ 2) {e : EA} (he : e.2.length ≤ 2) (r : Rl) : layF (gn e.1) (encT m0 m1 e.2) (es.map (encE m0 m1)) (stepA m0 m1 r) = (layA e.1 e.2 es r).map (encE m0 m1) := by
  unfold layF layA
  rw [stepA_gl h0 h1 r, stepA_st h0 h1 r, before_enc h0 h1 hne he r, held_enc h0 h1 hne hes]
  by_cases hg : r.g = e.1
  · rw [if_pos (congrArg gn hg), if_pos hg]
    by_cases hh : heldB es r.b (befA e.2 r.d) = true
    · rw [if_pos hh, if_pos hh]
    · rw [if_neg hh, if_neg hh, List.map_append]; rfl
  · rw [if_neg (fun q => hg (gn_inj _ _ q)), if_neg hg]
theorem enc_short : ∀ w : Wd, (encT m0 m1 w).length ≤ 4 * w.length
  | [] => by show (Str.ofString "").length ≤ 0; decide +kernel
  | s :: w => by
    have ih := enc_short w
    obtain ⟨_, b, _⟩ := sgn_ok _ (msg_in h0 h1 s)
    show (Str.ofString " " ++ msg m0 m1 s ++ Str.ofString " " ++ encT m0 m1 w).length ≤ 4 * (w.length + 1)
    have e : (Str.ofString " ").length = 1 := by decide +kernel
    rw [Str.length_append, Str.length_append, Str.length_append, e]; omega
noncomputable def IvA (m0 m1 : Str) (P : List Rl) (es2 : List (Str × Str)) (d j : Nat) : Prop := ∃ es, es2 = es.map (encE m0 m1) ∧ IA P es d j
include hne in
theorem run_ok (P : List Rl) : LeastRun (P.map (stepA m0 m1)) (IvA m0 m1 P) where
  start := ⟨[(none, [])], rfl, IA.start P⟩
  good := by
    rintro es2 d j ⟨es, rfl, H⟩
    rw [List.length_map]
    refine ⟨H.le, H.short, ?_⟩
    intro e he
    obtain ⟨⟨g, u⟩, hm, rfl⟩ := List.mem_map.mp he
    have hu := H.le2 _ hm
    obtain ⟨_, _, _, _, hw, _⟩ := chk_word h0 h1 hu
    refine ⟨?_, hw.xl, hw⟩
    match g with
    | none => show (Str.ofString "c").length ≤ 10; decide +kernel
    | some false => show (Str.ofString "a").length ≤ 10; decide +kernel
    | some true => show (Str.ofString "b").length ≤ 10; decide +kernel
  bef := by
    rintro es2 d j e p ⟨es, rfl, H⟩ he hp hg
    rw [List.getElem?_map] at he hp
    obtain ⟨⟨g, q⟩, he', rfl⟩ := Option.map_eq_some_iff.mp he
    obtain ⟨r, hr, rfl⟩ := Option.map_eq_some_iff.mp hp
    have hq := H.le2 _ (List.mem_of_getElem? he')
    dsimp only at hq
    show (beforeOf (encT m0 m1 q) (stepA m0 m1 r)).length ≤ 100 ∧ (((pickS (Txt.upper (stepA m0 m1 r).st) (es.map (encE m0 m1))).any fun x => finds x (beforeOf (encT m0 m1 q) (stepA m0 m1 r))) = false → GoodV (beforeOf (encT m0 m1 q) (stepA m0 m1 r)))
    rw [before_enc h0 h1 hne hq r, stepA_st h0 h1 r, held_enc h0 h1 hne H.le2]
    have hl3 : (befA q r.d).length ≤ 3 := by
      obtain ⟨b, d, g⟩ := r
      match d with
      | none => exact Nat.le_succ_of_le hq
      | some (true, s) => show (s :: q).length ≤ 3; simp; omega
      | some (false, s) =>
        exact Nat.le_trans (befA_rest_le (by intro s' h; cases h)) (Nat.le_succ_of_le hq)
    refine ⟨Nat.le_trans (enc_short h0 h1 _) (by omega), fun hh => ?_⟩
    have hn : ¬ heldA es r.b (befA q r.d) := fun q => by
      rw [heldB_iff.mpr q] at hh; cases hh
    obtain ⟨_, _, _, _, _, hv, _⟩ := chk_word h0 h1 (new_ok H (List.mem_of_getElem? he') hn).1
    exact hv
  step := by
    rintro es2 d j e p ⟨es, rfl, H⟩ he hp
    rw [List.getElem?_map] at he hp
    obtain ⟨⟨g, q⟩, he', rfl⟩ := Option.map_eq_some_iff.mp he
    obtain ⟨r, hr, rfl⟩ := Option.map_eq_some_iff.mp hp
    exact ⟨_, layF_enc h0 h1 hne H.le2 (e := (g, q)) (H.le2 _ (List.mem_of_getElem? he')) r, H.step he' hr⟩
  next := by
    rintro es2 d ⟨es, rfl, H⟩ hd
    rw [List.length_map] at H hd
    exact ⟨es, rfl, H.next hd⟩
end
end Mine
end

section
open PySem PySem.W PyProof.Rows PySem.Builtin PySem.Builtin.Str
set_option maxRecDepth 100000
namespace Mine
noncomputable def dg (s : Bool) : Str := if s then Str.ofString "1" else Str.ofString "0"
structure RowRl (r : Row) (p : Rl) : Prop where
  b : r.b = nm p.b
  g : r.g = gn p.g
  ds : (p.d = none ∧ r.d = Str.ofString "rest" ∧ r.sg = Str.ofString "0") ∨ (∃ s, p.d = some (false, s) ∧ r.d = Str.ofString "send" ∧ r.sg = dg s) ∨ (∃ s, p.d = some (true, s) ∧ r.d = Str.ofString "take" ∧ r.sg = dg s)
theorem item_ab (k : Int) (h0 : 0 ≤ k) (h2 : k < 2) : ∃ b, Txt.item (Str.ofString "ab") k = nm b := by
  rcases (by omega : k = 0 ∨ k = 1) with rfl | rfl
  · exact ⟨false, by decide +kernel⟩
  · exact ⟨true, by decide +kernel⟩
theorem item_abc (k : Int) (h0 : 0 ≤ k) (h2 : k < 3) : ∃ g, Txt.item (Str.ofString "abc") k = gn g := by
  rcases (by omega : k = 0 ∨ k = 1 ∨ k = 2) with rfl | rfl | rfl
  · exact ⟨some false, by decide +kernel⟩
  · exact ⟨some true, by decide +kernel⟩
  · exact ⟨none, by decide +kernel⟩
theorem item_01 (k : Int) (h0 : 0 ≤ k) (h2 : k < 2) : ∃ s, Txt.item (Str.ofString "01") k = dg s := by
  rcases (by omega : k = 0 ∨ k = 1) with rfl | rfl
  · exact ⟨false, by decide +kernel⟩
  · exact ⟨true, by decide +kernel⟩
theorem row_rl {x : Int} {i : Nat} {r : Row} (h : RowIs x i r) : ∃ p, RowRl r p := by
  obtain ⟨b, hb⟩ := item_ab _ (mdd_bnd (a := x) (b := 2) (by decide)).1 (mdd_bnd (by decide)).2
  obtain ⟨s, hs⟩ := item_01 _ (mdd_bnd (a := mdd (dvv x 6) 7) (b := 2) (by decide)).1 (mdd_bnd (by decide)).2
  obtain ⟨g, hg⟩ : ∃ g, r.g = gn g := by
    rw [h.g]
    split
    · exact ⟨none, rfl⟩
    · exact item_abc _ (mdd_bnd (by decide)).1 (mdd_bnd (by decide)).2
  have hk := mdd_bnd (a := dvv x 6) (b := 7) (by decide)
  have hd := h.d
  unfold deedOf at hd
  by_cases h6 : mdd (dvv x 6) 7 = 6
  · rw [if_pos h6] at hd
    refine ⟨⟨b, none, g⟩, h.b.trans hb, hg, .inl ⟨rfl, hd, ?_⟩⟩
    rw [h.sg, h6, mdd_eq]
    decide +kernel
  · rw [if_neg h6] at hd
    by_cases h2 : mdd (dvv x 6) 7 < 2
    · rw [if_pos h2] at hd
      exact ⟨⟨b, some (false, s), g⟩, h.b.trans hb, hg, .inr (.inl ⟨s, rfl, hd, h.sg.trans hs⟩)⟩
    · rw [if_neg h2] at hd
      exact ⟨⟨b, some (true, s), g⟩, h.b.trans hb, hg, .inr (.inr ⟨s, rfl, hd, h.sg.trans hs⟩)⟩
theorem nm_len (b : Bool) : (nm b).length ≤ 10 := by cases b <;> decide +kernel
theorem gn_len (g : Option Bool) : (gn g).length ≤ 10 := by
  match g with
  | none => show (Str.ofString "c").length ≤ 10; decide +kernel
  | some b => exact nm_len b
theorem dg_len (s : Bool) : (dg s).length ≤ 10 := by cases s <;> decide +kernel
theorem RowRl.lens {r : Row} {p : Rl} (h : RowRl r p) : r.b.length ≤ 10 ∧ r.d.length ≤ 10 ∧ r.sg.length ≤ 10 ∧ r.g.length ≤ 10 := by
  refine ⟨h.b ▸ nm_len _, ?_, ?_, h.g ▸ gn_len _⟩
  · rcases h.ds with ⟨_, e, _⟩ | ⟨s, _, e, _⟩ | ⟨s, _, e, _⟩ <;> rw [e] <;> decide +kernel
  · rcases h.ds with ⟨_, _, e⟩ | ⟨s, _, _, e⟩ | ⟨s, _, _, e⟩
    · rw [e]; decide +kernel
    · rw [e]; exact dg_len s
    · rw [e]; exact dg_len s
theorem RowRl.sg01 {r : Row} {p : Rl} (h : RowRl r p) : r.sg = Str.ofString "0" ∨ r.sg = Str.ofString "1" := by
  rcases h.ds with ⟨_, _, e⟩ | ⟨s, _, _, e⟩ | ⟨s, _, _, e⟩
  · exact .inl e
  · cases s
    · exact .inl e
    · exact .inr e
  · cases s
    · exact .inl e
    · exact .inr e
theorem name_two (x : Int) (r : Row) (b : Bool) (h : r.b = nm b) : nameOf x r = nm b ∨ nameOf x r = Txt.upper (nm b) := by
  unfold nameOf; rw [h]; split
  · exact .inr rfl
  · exact .inl rfl
theorem name_ok (x : Int) (r : Row) (b : Bool) (h : r.b = nm b) : GoodN (nameOf x r) ∧ (nameOf x r).length ≤ 300 ∧ ∀ b', (Txt.lower (nameOf x r) == Txt.lower (Txt.upper (nm b'))) = decide (b = b') := by
  rcases name_two x r b h with e | e
  · rw [e]
    cases b
    · exact ⟨⟨by decide +kernel, by decide +kernel⟩, by decide +kernel, fun b' => by cases b' <;> decide +kernel⟩
    · exact ⟨⟨by decide +kernel, by decide +kernel⟩, by decide +kernel, fun b' => by cases b' <;> decide +kernel⟩
  · rw [e]
    cases b
    · exact ⟨⟨by decide +kernel, by decide +kernel⟩, by decide +kernel, fun b' => by cases b' <;> decide +kernel⟩
    · exact ⟨⟨by decide +kernel, by decide +kernel⟩, by decide +kernel, fun b' => by cases b' <;> decide +kernel⟩
theorem goal_ok (x : Int) (r : Row) (g : Option Bool) (h : r.g = gn g) : goalOf x r ∈ goals6 ∧ Txt.lower (goalOf x r) = gn g ∧ (goalOf x r).length ≤ 1000 := by
  unfold goalOf; rw [h]
  split
  · match g with
    | none => exact ⟨by decide +kernel, by decide +kernel, by decide +kernel⟩
    | some false => exact ⟨by decide +kernel, by decide +kernel, by decide +kernel⟩
    | some true => exact ⟨by decide +kernel, by decide +kernel, by decide +kernel⟩
  · match g with
    | none => exact ⟨by decide +kernel, by decide +kernel, by decide +kernel⟩
    | some false => exact ⟨by decide +kernel, by decide +kernel, by decide +kernel⟩
    | some true => exact ⟨by decide +kernel, by decide +kernel, by decide +kernel⟩
theorem valChk_out {v : Str} {st : Int × Str × Str} (h : valChk v st = true) : GoodV v ∧ ValOK v ∧ stepOf v = st := by
  unfold valChk at h
  simp only [Bool.and_eq_true, decide_eq_true_eq, List.all_eq_true] at h
  obtain ⟨⟨⟨a, b⟩, c⟩, d⟩ := h
  exact ⟨⟨a, b⟩, ⟨a, c⟩, d⟩
theorem msgOf_eq {m0 m1 : Str} {r : Row} {s : Bool} (h : r.sg = dg s) : msgOf m0 m1 r = msg m0 m1 s := by
  unfold msgOf; rw [h]
  cases s
  · exact if_pos rfl
  · exact if_neg lit_10
theorem lit_sr : ¬ Str.ofString "rest" = Str.ofString "send" := by decide +kernel
theorem lit_tr : ¬ Str.ofString "rest" = Str.ofString "take" := by decide +kernel
theorem lit_ts : ¬ Str.ofString "take" = Str.ofString "send" := by decide +kernel
theorem val_ok {m0 m1 : Str} (h0 : m0 ∈ signs8) (h1 : m1 ∈ signs8) (x : Int) {r : Row} {p : Rl} (h : RowRl r p) : GoodV (valOf m0 m1 x r) ∧ ValOK (valOf m0 m1 x r) ∧ stepOf (valOf m0 m1 x r) = ((stepA m0 m1 p).d, (stepA m0 m1 p).ms, (stepA m0 m1 p).gl) := by
  obtain ⟨hg, hl, _⟩ := goal_ok x r p.g h.g
  obtain ⟨b, d, g⟩ := p
  unfold valOf
  rcases h.ds with ⟨e, e1, e2⟩ | ⟨s, e, e1, e2⟩ | ⟨s, e, e1, e2⟩
  · dsimp only at e hl
    subst e
    rw [e1, if_neg lit_sr, if_neg lit_tr]
    have := valChk_out (val0 _ hg)
    rw [hl] at this
    exact this
  · dsimp only at e hl
    subst e
    rw [e1, if_pos rfl, msgOf_eq e2]
    have := valChk_out (val1 _ (msg_in h0 h1 s) _ hg)
    rw [hl] at this
    exact this
  · dsimp only at e hl
    subst e
    rw [e1, if_neg lit_ts, if_pos rfl, msgOf_eq e2]
    have := valChk_out (val2 _ (msg_in h0 h1 s) _ hg)
    rw [hl] at this
    exact this
/-- two lists, item by item -/
noncomputable def All2 {α β : Type} (F : α → β → Prop) : List α → List β → Prop
  | [], [] => True
  | a :: l, b :: m => F a b ∧ All2 F l m
  | _, _ => False
theorem All2.len {α β : Type} {F : α → β → Prop} : ∀ {l : List α} {m : List β}, All2 F l m → l.length = m.length
  | [], [], _ => rfl
  | _ :: _, _ :: _, h => by simp [h.2.len]
  | [], _ :: _, h => h.elim
  | _ :: _, [], h => h.elim
theorem All2.get {α β : Type} {F : α → β → Prop} : ∀ {l : List α} {m : List β}, All2 F l m → ∀ {j : Nat} {a : α}, l[j]? = some a → ∃ b, m[j]? = some b ∧ F a b
  | [], [], _, _, _, h => by simp at h
  | _ :: _, _ :: _, h, 0, _, e => by cases e; exact ⟨_, rfl, h.1⟩
  | _ :: _, _ :: _, h, j + 1, a, e => by
    obtain ⟨b, h1, h2⟩ := h.2.get (j := j) (a := a) (by simpa using e)
    exact ⟨b, by simpa using h1, h2⟩
  | [], _ :: _, h, _, _, _ => h.elim
  | _ :: _, [], h, _, _, _ => h.elim
theorem All2.of {α β : Type} {F : α → β → Prop} : ∀ {l : List α} {m : List β}, l.length = m.length → (∀ (j : Nat) (a : α) (b : β), l[j]? = some a → m[j]? = some b → F a b) → All2 F l m
  | [], [], _, _ => trivial
  | a :: l, b :: m, hl, h => ⟨h 0 a b rfl rfl, All2.of (by simpa using hl) fun j a' b' h1 h2 => h (j + 1) a' b' (by simpa using h1) (by simpa using h2)⟩
  | [], _ :: _, h, _ => by simp at h
  | _ :: _, [], h, _ => by simp at h
theorem All2.choose {α β : Type} {F : α → β → Prop} : ∀ (l : List α), (∀ a ∈ l, ∃ b, F a b) → ∃ m, All2 F l m
  | [], _ => ⟨[], trivial⟩
  | a :: l, h => by
    obtain ⟨b, hb⟩ := h a (by simp)
    obtain ⟨m, hm⟩ := All2.choose l fun a ha => h a (List.mem_cons_of_mem _ ha)
    exact ⟨b :: m, hb, hm⟩
noncomputable def Pof (rl : List Rl) : List Rl := [false, true].flatMap fun b => rl.filter fun p => p.b == b
theorem mem_Pof {rl : List Rl} {p : Rl} : p ∈ Pof rl ↔ p ∈ rl := by
  unfold Pof
  simp only [List.mem_flatMap, List.mem_filter, List.mem_cons, List.not_mem_nil, or_false, beq_iff_eq]
  constructor
  · rintro ⟨b, _, h, _⟩; exact h
  · intro h; exact ⟨p.b, by cases p.b <;> simp, h, rfl⟩
/-- an entry of the first table, and its rule -/
structure EntRl (m0 m1 : Str) (e : Str × Str) (p : Rl) : Prop where
  n : ∀ b', (Txt.lower e.1 == Txt.lower (Txt.upper (nm b'))) = decide (p.b = b')
  s : stepOf e.2 = ((stepA m0 m1 p).d, (stepA m0 m1 p).ms, (stepA m0 m1 p).gl)
theorem pick_steps {m0 m1 : Str} (b : Bool) : ∀ {L : List (Str × Str)} {rl : List Rl}, All2 (EntRl m0 m1) L rl → (pickS (Txt.upper (nm b)) L).map (mkStep (nm b)) = (rl.filter fun p => p.b == b).map (stepA m0 m1)
  | [], [], _ => rfl
  | e :: L, p :: rl, h => by
    have ih := pick_steps b h.2
    unfold pickS at ih ⊢
    have hn := h.1.n b
    by_cases hb : p.b = b
    · rw [List.filter_cons_of_pos (by rw [hn]; simpa using hb), List.filter_cons_of_pos (by simpa using hb), List.map_cons, List.map_cons, List.map_cons, ih]
      congr 1
      unfold mkStep
      rw [h.1.s, ← hb]
      obtain ⟨b', d, g⟩ := p
      match d with
      | none => rfl
      | some (true, s) => rfl
      | some (false, s) => rfl
    · rw [List.filter_cons_of_neg (by rw [hn]; simpa using hb), List.filter_cons_of_neg (by simpa using hb), ih]
  | [], _ :: _, h => h.elim
  | _ :: _, [], h => h.elim
theorem stepsOf_eq {m0 m1 : Str} {L : List (Str × Str)} {rl : List Rl} (h : All2 (EntRl m0 m1) L rl) : stepsOf L = (Pof rl).map (stepA m0 m1) := by
  unfold stepsOf Pof
  rw [List.map_flatMap]
  have e : ab = [false, true].map nm := by decide +kernel
  rw [e, List.flatMap_map]
  congr 1
  funext b
  exact pick_steps b h
theorem stepA_lens {m0 m1 : Str} (h0 : m0 ∈ signs8) (h1 : m1 ∈ signs8) (p : Rl) : (stepA m0 m1 p).ms.length ≤ 10 ∧ (stepA m0 m1 p).gl.length ≤ 10 := by
  have hl : ∀ s, (ltr (msg m0 m1 s)).length ≤ 10 := fun s => by
    obtain ⟨_, b, _⟩ := sgn_ok _ (msg_in h0 h1 s)
    unfold ltr
    have e : (Str.ofString " ").length = 1 := by decide +kernel
    rw [Str.length_append, Str.length_append, e]; omega
  obtain ⟨b, d, g⟩ := p
  match d with
  | none => exact ⟨by show (Str.ofString "").length ≤ 10; decide +kernel, gn_len g⟩
  | some (true, s) => exact ⟨hl s, gn_len g⟩
  | some (false, s) => exact ⟨hl s, gn_len g⟩
end Mine
end

section
open PySem PySem.W PyProof.Rows PySem.Builtin PySem.Builtin.Str
set_option maxRecDepth 100000
namespace Mine
noncomputable def dig (s : Bool) : Nat := if s then 49 else 48
noncomputable def bits (w : Wd) : Str := ⟨(w.map dig).toArray⟩
theorem dg_bits (s : Bool) : dg s = bits [s] := by cases s <;> decide +kernel
theorem bits_append (a b : Wd) : bits (a ++ b) = bits a ++ bits b := by
  unfold bits
  apply Str.ext'
  rw [Str.cps_append]; simp
theorem bits_length (w : Wd) : (bits w).length = w.length := by simp [bits, Str.length]
theorem dig_inj {a b : Bool} (h : dig a = dig b) : a = b := by cases a <;> cases b <;> simp_all [dig]
theorem map_dig_inj : ∀ {a b : Wd}, a.map dig = b.map dig → a = b
  | [], [], _ => rfl
  | [], _ :: _, h => by simp at h
  | _ :: _, [], h => by simp at h
  | a :: l, b :: m, h => by
    simp only [List.map_cons, List.cons.injEq] at h
    rw [dig_inj h.1, map_dig_inj h.2]
theorem bits_inj {a b : Wd} (h : bits a = bits b) : a = b := by
  unfold bits at h
  have := congrArg (fun x : Str => x.cps.toList) h
  exact map_dig_inj (by simpa using this)
theorem gn_codes : ∀ g : Option Bool, ∃ c, codes (gn g) = [c]
  | none => ⟨99, by decide +kernel⟩
  | some false => ⟨97, by decide +kernel⟩
  | some true => ⟨98, by decide +kernel⟩
theorem key_inj {g g' : Option Bool} {w w' : Wd} (h : gn g ++ bits w = gn g' ++ bits w') : g = g' ∧ w = w' := by
  obtain ⟨c, hc⟩ := gn_codes g
  obtain ⟨c', hc'⟩ := gn_codes g'
  have h1 : codes (gn g ++ bits w) = codes (gn g' ++ bits w') := by rw [h]
  have h2 : ∀ (x : Str) (v : Wd), codes (x ++ bits v) = codes x ++ v.map dig := fun x v => by
    unfold codes bits
    rw [Str.cps_append, Array.toList_append]
  rw [h2, h2, hc, hc'] at h1
  simp only [List.cons_append, List.nil_append, List.cons.injEq] at h1
  refine ⟨gn_inj _ _ ?_, map_dig_inj h1.2⟩
  apply Str.ext'
  apply Array.toList_inj.mp
  show codes (gn g) = codes (gn g')
  rw [hc, hc', h1.1]
/-- the words, layer by layer -/
noncomputable def layerW : Nat → List Wd
  | 0 => [[]]
  | i + 1 => (layerW i).flatMap fun a => [a ++ [false], a ++ [true]]
noncomputable def wordsW : Nat → List Wd
  | 0 => [[]]
  | i + 1 => wordsW i ++ layerW (i + 1)
theorem layer_bits : ∀ i, layerOf i = (layerW i).map bits
  | 0 => by decide +kernel
  | i + 1 => by
    show ((layerOf i).flatMap fun a => lits01.map (a ++ ·)) = ((layerW i).flatMap fun a => [a ++ [false], a ++ [true]]).map bits
    rw [layer_bits i, List.map_flatMap, List.flatMap_map]
    congr 1
    funext a
    show [bits a ++ Str.ofString "0", bits a ++ Str.ofString "1"] = [bits (a ++ [false]), bits (a ++ [true])]
    rw [bits_append, bits_append, ← dg_bits, ← dg_bits]; rfl
theorem words_bits : ∀ i, wordsOf i = (wordsW i).map bits
  | 0 => by decide +kernel
  | i + 1 => by
    show wordsOf i ++ layerOf (i + 1) = (wordsW i ++ layerW (i + 1)).map bits
    rw [words_bits i, layer_bits (i + 1), List.map_append]
theorem mem_layerW : ∀ {i : Nat} {w : Wd}, w ∈ layerW i ↔ w.length = i
  | 0, w => by
    show w ∈ [[]] ↔ _
    rw [List.mem_singleton, List.length_eq_zero_iff]
  | i + 1, w => by
    show w ∈ (layerW i).flatMap (fun a => [a ++ [false], a ++ [true]]) ↔ _
    rw [List.mem_flatMap]
    constructor
    · rintro ⟨a, ha, hw⟩
      have := mem_layerW.mp ha
      simp only [List.mem_cons, List.not_mem_nil, or_false] at hw
      rcases hw with rfl | rfl <;> simp [this]
    · intro hl
      have hne : w ≠ [] := fun e => by rw [e] at hl; simp at hl
      have hs : w.dropLast ++ [w.getLast hne] = w := List.dropLast_concat_getLast hne
      refine ⟨w.dropLast, mem_layerW.mpr (by rw [List.length_dropLast]; omega), ?_⟩
      rw [← hs]
      simp only [List.dropLast_concat]
      cases w.getLast hne <;> simp
theorem mem_wordsW : ∀ {i : Nat} {w : Wd}, w ∈ wordsW i ↔ w.length ≤ i
  | 0, w => by
    show w ∈ [[]] ↔ _
    rw [List.mem_singleton, Nat.le_zero, List.length_eq_zero_iff]
  | i + 1, w => by
    show w ∈ wordsW i ++ layerW (i + 1) ↔ _
    rw [List.mem_append, mem_wordsW, mem_layerW]; omega
theorem lost_bits : ∀ w ∈ wordsW 3, ∀ k ∈ List.range w.length, Txt.slice (bits w) none (some (k : Int)) ++ Txt.slice (bits w) (some ((k : Int) + 1)) none = bits (w.eraseIdx k) := by decide +kernel
theorem take_bits : ∀ w ∈ wordsW 3, Txt.slice (bits w) none (some 1) = bits (w.take 1) ∧ Txt.slice (bits w) (some 1) none = bits w.tail := by decide +kernel
theorem nm_eq {b b' : Bool} : nm b = nm b' ↔ b = b' := ⟨fun h => by
  have := gn_inj (some b) (some b') h
  exact Option.some.inj this, fun h => by rw [h]⟩
theorem row_leads {r : Row} {p : Rl} (h : RowRl r p) {b : Bool} {w : Wd} (hw : w.length ≤ 3) {n : Nat} {c : List Str} :
    rowLeads (nm b) (bits w) (n : Int) c r = true ↔ (p.b = b ∧ match p.d with
      | none => gn p.g ++ bits w ∈ c
      | some (true, s) => w.head? = some s ∧ gn p.g ++ bits w.tail ∈ c
      | some (false, s) => w.length < n ∧ gn p.g ++ bits (w ++ [s]) ∈ c) := by
  obtain ⟨t1, t2⟩ := take_bits w (mem_wordsW.mpr hw)
  unfold rowLeads
  rw [h.b, h.g, t1, t2, bits_length]
  rw [Bool.and_eq_true, beq_iff_eq, nm_eq]
  refine and_congr Iff.rfl ?_
  obtain ⟨pb, d, g⟩ := p
  rcases h.ds with ⟨e, e1, e2⟩ | ⟨s, e, e1, e2⟩ | ⟨s, e, e1, e2⟩
  · dsimp only at e
    subst e
    rw [e1, beq_eq_false_iff_ne.mpr lit_sr, beq_eq_false_iff_ne.mpr lit_tr]
    simp
  · dsimp only at e
    subst e
    rw [e1, beq_self_eq_true, e2, dg_bits, Str.append_assoc, ← bits_append]
    simp
  · dsimp only at e
    subst e
    rw [e1, beq_eq_false_iff_ne.mpr lit_ts, beq_self_eq_true, e2, dg_bits]
    simp only [cond_false, cond_true, Bool.and_eq_true, beq_iff_eq, decide_eq_true_eq]
    refine and_congr ?_ Iff.rfl
    constructor
    · intro h
      have := bits_inj h
      cases w with
      | nil => simp at this
      | cons a w => simpa using this
    · intro h
      cases w with
      | nil => simp at h
      | cons a w =>
        have : a = s := by simpa using h
        rw [this]; rfl
theorem leads_iff {rs : List Row} {rl : List Rl} (h : All2 RowRl rs rl) {b : Bool} {w : Wd} (hw : w.length ≤ 3) {n : Nat} {c : List Str} :
    leadsTo rs (nm b) (bits w) (n : Int) c = true ↔ leadsA (Pof rl) n (fun g v => gn g ++ bits v ∈ c) b w := by
  unfold leadsTo leadsA
  rw [Bool.or_eq_true, List.any_eq_true, List.any_eq_true]
  refine or_congr ?_ ?_
  · rw [bits_length]
    constructor
    · rintro ⟨k, hk, e⟩
      have hl := lost_bits w (mem_wordsW.mpr hw) k hk
      refine ⟨k, List.mem_range.mp hk, ?_⟩
      have e' := of_decide_eq_true e
      unfold lostAt at e'
      rw [Str.append_assoc, hl] at e'
      exact e'
    · rintro ⟨k, hk, e⟩
      have hk' := List.mem_range.mpr hk
      have hl := lost_bits w (mem_wordsW.mpr hw) k hk'
      refine ⟨k, hk', decide_eq_true ?_⟩
      unfold lostAt
      rw [Str.append_assoc, hl]
      exact e
  · constructor
    · rintro ⟨r, hr, e⟩
      obtain ⟨j, hj, ej⟩ := List.mem_iff_getElem.mp hr
      obtain ⟨p, hp, hrp⟩ := h.get (j := j) (a := r) (by rw [List.getElem?_eq_getElem hj, ej])
      obtain ⟨h1, h2⟩ := (row_leads hrp hw).mp e
      exact ⟨p, mem_Pof.mpr (List.mem_of_getElem? hp), h1, h2⟩
    · rintro ⟨p, hp, h1, h2⟩
      obtain ⟨j, hj, ej⟩ := List.mem_iff_getElem.mp (mem_Pof.mp hp)
      have hlen := h.len
      have hjr : j < rs.length := by omega
      obtain ⟨p', hp', hrp⟩ := h.get (j := j) (a := rs[j]) (List.getElem?_eq_getElem hjr)
      rw [List.getElem?_eq_getElem hj, ej] at hp'
      cases hp'
      exact ⟨rs[j], List.getElem_mem hjr, (row_leads hrp hw).mpr ⟨h1, h2⟩⟩
/-- what holds of the keys of the search -/
noncomputable def PK (es : List EA) (k : Str) : Prop := ∀ g w, k = gn g ++ bits w → soundA es g w
theorem PK_c {es : List EA} (w : Wd) : PK es (Str.ofString "c" ++ bits w) := fun g w' e => by
  obtain ⟨h1, _⟩ := key_inj (g := none) e
  intro st h
  rw [← h1] at h; cases h
theorem ab_nm {st : Str} (h : st = Str.ofString "a" ∨ st = Str.ofString "b") : ∃ b, st = nm b := by
  rcases h with rfl | rfl
  · exact ⟨false, rfl⟩
  · exact ⟨true, rfl⟩
theorem PK_step {rs : List Row} {rl : List Rl} (h : All2 RowRl rs rl) {es : List EA} (I : IA (Pof rl) es es.length 0) {n : Nat} (hn : n ≤ 3) {c : List Str} (hc : ∀ k ∈ c, PK es k) {x : Str} (hx : x ∈ wordsOf n) {st : Str} (hst : st = Str.ofString "a" ∨ st = Str.ofString "b")
    (hl : leadsTo rs st x (n : Int) c = true) : PK es (st ++ x) := by
  obtain ⟨b, rfl⟩ := ab_nm hst
  rw [words_bits] at hx
  obtain ⟨w, hw, rfl⟩ := List.mem_map.mp hx
  have hwl := mem_wordsW.mp hw
  have hA := (leads_iff h (by omega)).mp hl
  have hh := sound_step I (H := fun g v => gn g ++ bits v ∈ c) (fun g v hv => hc _ hv g v rfl) hA
  intro g w' e st' hg
  obtain ⟨h1, h2⟩ := key_inj (g := some b) e
  rw [← h1] at hg
  cases hg
  rw [← h2]; exact hh
/-- the end: what is held is what the search reaches -/
theorem law_end {m0 m1 : Str} (h0 : m0 ∈ signs8) (h1 : m1 ∈ signs8) (hne : m0 ≠ m1) {rs : List Row} {rl : List Rl} (h : All2 RowRl rs rl) {es : List EA} (I : IA (Pof rl) es es.length 0) {n : Nat} (hn3 : n ≤ 3) (hn : ∀ e ∈ es, e.2.length < n) {c : List Str}
    (hc : ∀ k ∈ c, PK es k) (hfin : ∀ x ∈ wordsOf n, Str.ofString "c" ++ x ∈ c) (hcl : ∀ x ∈ wordsOf n, ∀ st, st = Str.ofString "a" ∨ st = Str.ofString "b" → Closed rs (n : Int) c x st)
    {w : Wd} (hw : w.length ≤ n) (b : Bool) :
    ((pickS (Txt.upper (nm b)) (es.map (encE m0 m1))).any fun x => finds x (encT m0 m1 w)) = decide (nm b ++ bits w ∈ c) := by
  rw [held_enc h0 h1 hne I.le2]
  have hin : ∀ v : Wd, v.length ≤ n → bits v ∈ wordsOf n := fun v hv => by
    rw [words_bits]; exact List.mem_map.mpr ⟨v, mem_wordsW.mpr hv, rfl⟩
  have key := final_iff I (H := fun g v => gn g ++ bits v ∈ c) (fun v hv => hfin _ (hin v hv)) (fun st v hv hA => by
    apply Classical.byContradiction
    intro hno
    have hst : nm st = Str.ofString "a" ∨ nm st = Str.ofString "b" := by cases st <;> simp [nm]
    have := hcl _ (hin v hv) (nm st) hst hno
    rw [(leads_iff h (by omega)).mpr hA] at this
    cases this) hn (fun g v hv => hc _ hv g v rfl) (st := b) hw
  rw [Bool.eq_iff_iff, decide_eq_true_eq, heldB_iff]
  exact key
end Mine
end

section
open PySem PySem.W PyProof.Rows PySem.Builtin PySem.Builtin.Str
set_option Elab.async false
set_option maxRecDepth 100000
set_option maxHeartbeats 8000000
namespace Mine
local macro_rules | `(tactic| walk_at "call builtin:sum cons nil") => `(tactic| (refine Mine.stopAt ?_))
local macro_rules | `(tactic| walk_at "call builtin:sum") => `(tactic| (refine Mine.stopAt ?_))
local macro_rules | `(tactic| walk_at "call ref") => `(tactic| (refine Mine.stopAt ?_))
local macro_rules | `(tactic| walk_at "subscriptTail Name Slice ref ref") => `(tactic| (refine Mine.stopAt ?_))
local macro_rules | `(tactic| walk_at "subscriptTail Name Name ref int") => `(tactic| (refine Mine.stopAt ?_))
local macro_rules | `(tactic| walk_at "call builtin:sum cons nil") => `(tactic| (refine Mine.stopAt ?_))
local macro_rules | `(tactic| walk_at "CompSrc") => `(tactic| (refine Mine.stopAt ?_))
theorem ints_get {vs : List Value} {ns : List Int} (h : IntsAre vs ns) {i : Nat} {v : Value} (hv : vs[i]? = some v) : ∃ n t, v = .int n t := by
  obtain ⟨n, t, e, _⟩ := h.at i v hv
  exact ⟨n, t, e⟩
theorem five_ints {ys : List Value} {B : Int} (hl : ys.length = 5) (h : ∀ y ∈ ys, ∃ a t, y = .int a t ∧ 0 ≤ a ∧ a ≤ B) :
    ∃ a0 a1 a2 a3 a4 u0 u1 u2 u3 u4, ys = [.int a0 u0, .int a1 u1, .int a2 u2, .int a3 u3, .int a4 u4] ∧ (0 ≤ a0 ∧ a0 ≤ B) ∧ (0 ≤ a1 ∧ a1 ≤ B) ∧ (0 ≤ a2 ∧ a2 ≤ B) ∧ (0 ≤ a3 ∧ a3 ≤ B) ∧ (0 ≤ a4 ∧ a4 ≤ B) := by
  match ys, hl with
  | [y0, y1, y2, y3, y4], _ =>
    obtain ⟨a0, u0, rfl, h0⟩ := h y0 (by simp)
    obtain ⟨a1, u1, rfl, h1⟩ := h y1 (by simp)
    obtain ⟨a2, u2, rfl, h2⟩ := h y2 (by simp)
    obtain ⟨a3, u3, rfl, h3⟩ := h y3 (by simp)
    obtain ⟨a4, u4, rfl, h4⟩ := h y4 (by simp)
    exact ⟨a0, a1, a2, a3, a4, u0, u1, u2, u3, u4, rfl, h0, h1, h2, h3, h4⟩
theorem ints_len {vs : List Value} {ns : List Int} (h : IntsAre vs ns) (hn : ¬ ((63 : Nat) : Int) < ((ns.length : Nat) : Int)) : vs.length ≤ 63 := by
  have := h.sizeZ
  simp only [List.size_toArray] at this
  omega
local macro_rules | `(tactic| walk_at "eval ListComp") => `(tactic| ((with_reducible show wpAny _ _ (PySem.eval (.ListComp (.BinOp _ Operator.FloorDiv _ _) _ _ _) _) _ _ _); refine Mine.stopAt ?_))
local macro_rules | `(tactic| walk_at "eval ListComp") => `(tactic| ((with_reducible show wpAny _ _ (PySem.eval (.ListComp (.BinOp _ Operator.Add _ _) _ _ _) _) _ _ _); refine Mine.stopAt ?_))
local macro_rules | `(tactic| walk_at "subscriptTail Name Name ref str") => `(tactic| (refine Mine.stopAt ?_))
local macro_rules | `(tactic| walk_at "compareOp In str ref") => `(tactic| (refine Mine.stopAt ?_))
local macro_rules | `(tactic| walk_at "call builtin:str.join") => `(tactic| (refine Mine.stopAt ?_))
local macro_rules | `(tactic| walk_at "subscriptTail Name Call ref int") => `(tactic| (refine Mine.stopAt ?_))
local macro_rules | `(tactic| walk_at "call builtin:max") => `(tactic| (refine Mine.stopAt ?_))
theorem strs8 {t0 t1 t2 t3 t4 t5 t6 t7 : Tok} : ∀ (j : Nat) v, [Value.str (Str.ofString "+") t0, .str (Str.ofString "-") t1, .str (Str.ofString "**") t2, .str (Str.ofString "//") t3, .str (Str.ofString "|") t4, .str (Str.ofString "~") t5, .str (Str.ofString "->") t6, .str (Str.ofString "!=") t7][j]? = some v → ∃ x t, v = .str x t ∧ signs8[j]? = some x
  | 0, _, h | 1, _, h | 2, _, h | 3, _, h | 4, _, h | 5, _, h | 6, _, h | 7, _, h => by cases h; exact ⟨_, _, rfl, rfl⟩
  | n + 8, _, h => by simp at h
theorem signs_nd : ∀ i ∈ List.range 8, ∀ j ∈ List.range 8, signs8[i]? = signs8[j]? → i = j := by decide +kernel
theorem vals_enc {m0 m1 : Str} {es2 : List Ent} {es : List EA} (hes : ents es2 = es.map (encE m0 m1)) {i : Nat} {x : Str} (h : ((es2.map fun e => (e.v, e.tv)).map (·.1))[i]? = some x) : ∃ e, es[i]? = some e ∧ x = encT m0 m1 e.2 := by
  have e1 : (es2.map fun e => (e.v, e.tv)).map (·.1) = (ents es2).map (·.2) := by
    unfold ents; rw [List.map_map, List.map_map]; rfl
  rw [e1, hes, List.map_map, List.getElem?_map] at h
  obtain ⟨e, he, rfl⟩ := Option.map_eq_some_iff.mp h
  exact ⟨e, he, rfl⟩
theorem bits_ascii (w : Wd) : (bits w).cps.all (· < 128) = true := by
  unfold bits
  rw [Array.all_eq_true]
  intro i hi
  have hi' : i < w.length := by simpa using hi
  simp only [List.getElem_toArray, List.getElem_map]
  cases w[i]'hi' <;> rfl
theorem bits_at {w : Wd} {i c : Nat} (h : (bits w).cps[i]? = some c) : ∃ b, w[i]? = some b ∧ c = dig b := by
  unfold bits at h
  simp only [List.getElem?_toArray, List.getElem?_map] at h
  obtain ⟨b, hb, rfl⟩ := Option.map_eq_some_iff.mp h
  exact ⟨b, hb, rfl⟩
theorem app_nil (x : Str) : x ++ Str.ofString "" = x := by
  apply Str.ext'
  rw [Str.cps_append, show (Str.ofString "").cps = #[] from by decide +kernel, Array.append_empty]
theorem join_enc (m0 m1 : Str) (w : Wd) : Txt.join (Str.ofString "") (w.map fun s => ltr (msg m0 m1 s)) = encT m0 m1 w := by
  unfold Txt.join
  rw [StrLaws.glued_eq_join]
  induction w with
  | nil => show Str.empty = Str.ofString ""; decide +kernel
  | cons s w ih =>
    cases w with
    | nil => exact (app_nil _).symm
    | cons s2 w =>
      show ltr (msg m0 m1 s) ++ Str.ofString "" ++ Str.join (Str.ofString "") ((s2 :: w).map fun s => ltr (msg m0 m1 s)) = ltr (msg m0 m1 s) ++ encT m0 m1 (s2 :: w)
      rw [ih, app_nil]
theorem sum_enc {m0 m1 : Str} (h0 : m0 ∈ signs8) (h1 : m1 ∈ signs8) : ∀ w : Wd, ((w.map fun s => ltr (msg m0 m1 s)).map (·.length)).sum ≤ 4 * w.length
  | [] => Nat.le_refl _
  | s :: w => by
    have ih := sum_enc h0 h1 w
    obtain ⟨_, b, _⟩ := sgn_ok _ (msg_in h0 h1 s)
    simp only [List.map_cons, List.sum_cons, List.length_cons] at ih ⊢
    have e : (Str.ofString " ").length = 1 := by decide +kernel
    have : (ltr (msg m0 m1 s)).length ≤ 4 := by
      unfold ltr; rw [Str.length_append, Str.length_append, e]; omega
    omega
theorem strsAre_v : ∀ l : List (Str × Tok), StrsAre (strValues l) (l.map (·.1))
  | [] => .nil
  | p :: l => .cons p.1 p.2 (strsAre_v l)
theorem snoc_texts {l : List (Str × Tok)} {x : Str} {t : Tok} {a b : List Str} (h : l.map (·.1) = a) (hb : b = a ++ [x]) : ∃ l', strValues l ++ [.str x t] = strValues l' ∧ l'.map (·.1) = b :=
  ⟨l ++ [(x, t)], by unfold strValues; rw [List.map_append]; rfl, by rw [List.map_append, h, hb]; rfl⟩
theorem ab_or {i : Nat} {st : Str} (h : ab[i]? = some st) : st = Str.ofString "a" ∨ st = Str.ofString "b" := by
  match i, h with
  | 0, h => cases h; exact .inl rfl
  | 1, h => cases h; exact .inr rfl
theorem want_enc {m0 m1 : Str} (h0 : m0 ∈ signs8) (h1 : m1 ∈ signs8) {u : Wd} (hu : u.length ≤ 2) : WantOK (encT m0 m1 u) := by
  obtain ⟨_, _, _, _, h, _⟩ := chk_word h0 h1 hu
  exact h
theorem up_a : Txt.upper (nm false) = Str.ofString "A" := by decide +kernel
theorem up_b : Txt.upper (nm true) = Str.ofString "B" := by decide +kernel
theorem half_cnt (n : Nat) : dvv (2 * (n : Int)) 2 = (n : Int) := by
  rw [dvv_eq, Int.fdiv_eq_ediv_of_nonneg _ (by decide)]
  omega
theorem msgs_ne {A B : Int} {m0 m1 : Str} (h0 : signs8[(mdd A 8).toNat]? = some m0) (h1 : signs8[(mdd (mdd A 8 + 1 + mdd B 7) 8).toNat]? = some m1) : m0 ≠ m1 := by
  rintro rfl
  have a := mdd_bnd (a := A) (b := 8) (by decide)
  have b := mdd_bnd (a := B) (b := 7) (by decide)
  have c := mdd_bnd (a := mdd A 8 + 1 + mdd B 7) (b := 8) (by decide)
  have := signs_nd _ (List.mem_range.mpr (by omega)) _ (List.mem_range.mpr (by omega)) (h0.trans h1.symm)
  have e : mdd (mdd A 8 + 1 + mdd B 7) 8 = (mdd A 8 + 1 + mdd B 7) % 8 := by
    rw [mdd_eq, Int.fmod_eq_emod_of_nonneg _ (by decide)]
  omega
theorem ents_rl {m0 m1 : Str} (h0 : m0 ∈ signs8) (h1 : m1 ∈ signs8) {xs : List (Int × Tok)} {rs : List Row} {rl : List Rl} (hrl : All2 RowRl rs rl) {es : List Ent} (hl : es.length = rs.length)
    (h : ∀ (j : Nat) (e : Ent), es[j]? = some e → ∃ (x : Int × Tok) (r : Row), xs[j]? = some x ∧ rs[j]? = some r ∧ EntIs m0 m1 x.1 r e) :
    All2 (EntRl m0 m1) (ents es) rl ∧ ∀ e ∈ es, e.n.length ≤ 300 ∧ ValOK e.v := by
  have key : ∀ (j : Nat) (e : Ent), es[j]? = some e → ∃ p, rl[j]? = some p ∧ EntRl m0 m1 (e.n, e.v) p ∧ e.n.length ≤ 300 ∧ ValOK e.v := by
    intro j e he
    obtain ⟨x, r, _, hr, hn, hv⟩ := h j e he
    obtain ⟨p, hp, hrp⟩ := hrl.get hr
    obtain ⟨_, n2, n3⟩ := name_ok x.1 r p.b hrp.b
    obtain ⟨_, v2, v3⟩ := val_ok h0 h1 x.1 hrp
    exact ⟨p, hp, ⟨by rw [hn]; exact n3, by rw [hv]; exact v3⟩, hn ▸ n2, hv ▸ v2⟩
  constructor
  · refine All2.of (by rw [ents_length, hl, hrl.len]) ?_
    intro j a b ha hb
    unfold ents at ha
    rw [List.getElem?_map] at ha
    obtain ⟨e, he, rfl⟩ := Option.map_eq_some_iff.mp ha
    obtain ⟨p, hp, hE, _⟩ := key j e he
    rw [hp] at hb
    cases hb
    exact hE
  · intro e he
    obtain ⟨j, hj, ej⟩ := List.mem_iff_getElem.mp he
    obtain ⟨p, _, _, a, b⟩ := key j e (by rw [List.getElem?_eq_getElem hj, ej])
    exact ⟨a, b⟩
set_option maxHeartbeats 4000000 in
theorem law_holds : PySem.Challenge.rw_re0169_01.Holds := (fun walk => Mine.head._proof_1_587 fun said => Mine.head._proof_1_586 said walk) (by
  w_top off
  k_go0
  all_goals (try k_fold)
  k_steps
  rename Fr _ _ _ _ => F5
  rename News _ _ _ _ => N5
  rename IntsAre _ _ => hInts
  rename Heap.IsList _ _ _ => hSL
  refine Stop.mk ?_
  refine LCg.CompSrc.base (by rfl) F5 N5 hSL ?sz ?_
  case sz =>
    have := ints_len hInts (by assumption)
    rw [List.size_toArray, sizeLine_eq]; omega
  intro g2
  refine restU_inv (fun i ys => ys.length = i ∧ ∀ y ∈ ys, ∃ a t, y = .int a t ∧ 0 ≤ a ∧ a < 1000000) ⟨rfl, (fun _ h => nomatch h)⟩ ?_ ?_
  · rintro i v ys I oI C oC D m₂ h tk E' hv ⟨hyl, hys⟩ hC hx F N off ne
    obtain ⟨n, t, rfl⟩ := ints_get hInts hv
    k_steps
    refine LCg.CompEnd.intro (by assumption) (by assumption) _ (fun p hp => hp) off (.inl hSL) ⟨rfl, by simp [hyl], ?_⟩
    intro y hy
    rcases List.mem_append.mp hy with hy | hy
    · exact hys y hy
    · refine ⟨_, _, List.mem_singleton.mp hy, ?_, ?_⟩
      · exact (mdd_bnd (by decide)).1
      · exact (mdd_bnd (by decide)).2
  · rintro cut ⟨hyl, hcut⟩
    intro D h tk F N off
    simp only [LCg.Off1] at off
    k_steps
    refine Stop.mk ?_
    rename Fr _ _ _ _ => F5
    rename News _ _ _ _ => N5
    rename IsRange _ _ _ _ _ _ _ _ => hrg
    refine LCg.CompSrc.range (n := 5) (by rfl) F5 N5 hrg (by decide) (by rfl) (by rw [sizeLine_eq]; decide) ?_
    intro g3
    refine restR_inv (fun i ys => ys.length = i ∧ ∀ y ∈ ys, ∃ a t, y = .int a t ∧ 0 ≤ a ∧ a ≤ 100000000) ⟨rfl, (fun _ h => nomatch h)⟩ ?_ ?_
    · rintro i tk9 ys I oI C oC D2 m₂ h tk E' hi ⟨hyl2, hys2⟩ hC hx F N off ne
      clear N5 F5
      k_steps
      refine Stop.mk ?_
      rename Fr _ _ _ _ => F6
      rename News _ _ _ _ => N6
      have hi' : (0 : Int) ≤ 0 + (i : Int) ∧ 0 + (i : Int) < 5 := by omega
      k_dflt (refine' item_int (P := fun a => 0 ≤ a ∧ a ≤ 1000) N6 ?hm hi'.1 ?hi ?hf ?hb ?_ (by with_unfolding_all rfl); (case hm => k_mem); (case hi => exact hi'.2); (case hf => exact Nat.le_of_ble_eq_true rfl))
      case hb =>
        intro v hv
        simp only [List.mem_cons, List.not_mem_nil, or_false] at hv
        rcases hv with rfl | rfl | rfl | rfl | rfl <;> exact ⟨_, _, rfl, by decide, by decide⟩
      intro b tb hb0 _
      k_steps
      refine Stop.mk ?_
      k_dflt (refine' slice_st (its := cut.toArray) (k := cut.length) F6 N6 ?hm (.int _ _) .none (.int _ _) ?h0 ?sz ?_ (by with_unfolding_all rfl) (by intro _; with_unfolding_all rfl); (case hm => k_mem); (case h0 => decide))
      case sz => rw [List.size_toArray, hyl, sizeLine_eq]; have := ints_len hInts (by assumption); omega
      intro D3 vs3 h7 F7 N7 hv3 hl3
      clear F6 N6
      k_steps
      refine Stop.mk ?_
      k_dflt (refine' sum_bnd (B := 1000000) (by rfl) F7 N7 ?hm ?hB ?hb ?_; (case hm => k_mem); (case hB => decide))
      case hb =>
        intro v hv
        obtain ⟨a, t, e, h1, h2⟩ := hcut v (by simpa using hv3 v hv)
        exact ⟨a, t, e, h1, Int.le_of_lt h2⟩
      intro S h8 tk8 t8 hS1 hS2 F8 N8
      clear F7 N7
      have hS3 : S ≤ 63000000 := by
        rw [List.size_toArray, hyl] at hl3
        have := ints_len hInts (by assumption)
        omega
      k_steps
      refine LCg.CompEnd.intro (by assumption) (by assumption) _ (fun p hp => .tail _ hp) off trivial ⟨rfl, by simp [hyl2], ?_⟩
      intro y hy
      rcases List.mem_append.mp hy with hy | hy
      · exact hys2 y hy
      · exact ⟨_, _, List.mem_singleton.mp hy, by omega, by omega⟩
    · rintro ys ⟨hyl2, hys2⟩
      intro D2 h tk F N off2
      clear N5 F5
      simp only [LCg.Off1] at off2
      obtain ⟨a0, a1, a2, a3, a4, u0, u1, u2, u3, u4, rfl, hb0, hb1, hb2, hb3, hb4⟩ := five_ints hyl2 hys2
      k_steps
      refine Stop.mk ?_
      rename Fr _ _ _ _ => F5
      rename News _ _ _ _ => N5
      obtain ⟨i0, hi0⟩ : ∃ i0 : Int, i0 = mdd (dvv a0 168) 8 := ⟨_, rfl⟩
      have hib : 0 ≤ i0 ∧ i0 < 8 := by rw [hi0]; exact mdd_bnd (by decide)
      k_dflt (refine' item_text signs8 N5 ?hm ?h0 ?hi ?hf ?hb ?_ (by with_unfolding_all rfl); (case hm => k_mem); (case hf => exact Nat.le_of_ble_eq_true rfl); (case hb => exact strs8))
      case h0 => exact (mdd_bnd (by decide)).1
      case hi => exact (mdd_bnd (by decide)).2
      intro m0 tm0 hm0
      k_steps
      refine Stop.mk ?_
      k_dflt (refine' item_text signs8 N5 ?hm ?h0 ?hi ?hf ?hb ?_ (by with_unfolding_all rfl); (case hm => k_mem); (case hf => exact Nat.le_of_ble_eq_true rfl); (case hb => exact strs8))
      case h0 => exact (mdd_bnd (by decide)).1
      case hi => exact (mdd_bnd (by decide)).2
      intro m1 tm1 hm1
      k_steps
      refine Stop.mk ?_
      rename_i ml h8 l8 h9 oM F5 N5 dM
      have hm0s : m0 ∈ signs8 := List.mem_of_getElem? hm0
      have hm1s : m1 ∈ signs8 := List.mem_of_getElem? hm1
      have hmne : m0 ≠ m1 := msgs_ne hm0 hm1
      obtain ⟨base, N6, hbD, hbm, hbc⟩ : ∃ b : Led, News _ _ _ b ∧ (D2, listOf (([(a0, u0), (a1, u1), (a2, u2), (a3, u3), (a4, u4)] : List (Int × Tok)).map fun x => Value.int x.1 x.2).toArray 5) ∈ b ∧ (ml, listOf [Value.str m0 tm0, Value.str m1 tm1].toArray 0) ∈ b ∧ (_, oM) ∈ b := ⟨_, N5, by k_mem, by k_mem, by k_mem⟩
      clear N5 l8
      rename Top _ _ _ _ _ _ => TT
      have TT2 := TT
      rw [loose_eq] at TT2
      k_dflt (refine' Mine.ConK.use (drawn_con _ base D2 5 [(a0, u0), (a1, u1), (a2, u2), (a3, u3), (a4, u4)] hbD rfl) ?kB ?kF ?kX ?kN ?kT ?kK ?kd ?ku ?_; (case kF => exact F5); (case kN => exact N6); (case kB => k_asm); (case kX => k_asm); (case kT => k_asm); (case kK => first | exact rfl | assumption); (case kd => ktr_room); (case ku => ktr_units))
      intro r9 nw9 h10 tk10 F10 N10 hp9
      obtain ⟨D3, rs, tl1, e9, f9, hrs5, hrst, hrow⟩ := hp9
      subst e9; subst f9
      clear F5 N6
      obtain ⟨B2, hB2⟩ : ∃ b : Led, b = (D3, listOf (rvals rs).toArray 5) :: (tl1 ++ base) := ⟨_, rfl⟩
      rw [← hB2] at N10
      have hb2 : ∀ q ∈ base, q ∈ B2 := fun q hq => by rw [hB2]; exact .tail _ (List.mem_append_right _ hq)
      have hbD2 := hb2 _ hbD
      have hbm2 := hb2 _ hbm
      have hbc2 := hb2 _ hbc
      have hD3 : (D3, listOf (rvals rs).toArray 5) ∈ B2 := by rw [hB2]; exact .head _
      have hrsB : RowsIn B2 rs := fun r hr => by rw [hB2]; exact .tail _ (List.mem_append_left _ (hrst r hr))
      clear hbD hbm hbc hb2 hB2
      obtain ⟨rl, hrl⟩ := All2.choose (F := RowRl) rs (fun r hr => by
        obtain ⟨j, hj, ej⟩ := List.mem_iff_getElem.mp hr
        obtain ⟨x, _, hx⟩ := hrow j r (by rw [List.getElem?_eq_getElem hj, ej])
        exact row_rl hx)
      have hrlr : ∀ r ∈ rs, ∃ p, RowRl r p := fun r hr => by
        obtain ⟨j, hj, ej⟩ := List.mem_iff_getElem.mp hr
        obtain ⟨p, _, hp⟩ := hrl.get (j := j) (a := r) (by rw [List.getElem?_eq_getElem hj, ej])
        exact ⟨p, hp⟩
      have hm0l : m0.length ≤ 10 := Nat.le_trans (sgn_ok _ hm0s).2.1 (by decide)
      have hm1l : m1.length ≤ 10 := Nat.le_trans (sgn_ok _ hm1s).2.1 (by decide)
      k_steps
      refine Stop.mk ?_
      rename Fr _ _ _ _ => F11
      rename News _ _ _ _ => N11
      k_dflt (refine' Mine.ConK.use (rules_con _ B2 D2 D3 ml 5 5 0 [(a0, u0), (a1, u1), (a2, u2), (a3, u3), (a4, u4)] rs m0 m1 tm0 tm1 hbD2 hD3 hbm2 hrsB rfl hrs5 ?r1 hm0l hm1l ?r2 ?r3) ?kB ?kF ?kX ?kN ?kT ?kK ?kd ?ku ?_; (case kF => exact F11); (case kN => exact N11); (case kB => k_asm); (case kX => k_asm); (case kT => k_asm); (case kK => first | exact rfl | assumption); (case kd => ktr_room); (case ku => ktr_units))
      case r1 =>
        intro r hr
        obtain ⟨p, hp⟩ := hrlr r hr
        exact hp.sg01
      case r2 =>
        intro r hr
        obtain ⟨p, hp⟩ := hrlr r hr
        exact ⟨hp.lens.1, hp.lens.2.1, hp.lens.2.2.2⟩
      case r3 =>
        intro j x r _ hr
        obtain ⟨p, hp⟩ := hrlr r (List.mem_of_getElem? hr)
        exact ⟨(name_ok x.1 r p.b hp.b).1, (val_ok hm0s hm1s x.1 hp).1, (goal_ok x.1 r p.g hp.g).2.2⟩
      intro r12 nw12 h12 tk12 F12 N12 hp12
      obtain ⟨XR, dxR, hlR, esR, tkR, tl2, e12, f12, hes5, hXR, hdxR, hesR, hesA⟩ := hp12
      subst e12; subst f12
      clear F11 N11
      obtain ⟨hAll, hEok⟩ := ents_rl hm0s hm1s hrl (hes5.trans hrs5.symm) hesA
      have hst := stepsOf_eq hAll
      k_steps
      refine Stop.mk ?_
      rename Fr _ _ _ _ => F13
      rename News _ _ _ _ => N13
      k_dflt (refine' Mine.ConK.use (least_con _ ((hlR, listOf (hvals esR).toArray 5) :: (tl2 ++ B2)) XR dxR hlR esR 5 tkR (.tail _ (List.mem_append_left _ hXR)) (.tail _ (List.mem_append_left _ hdxR)) (.head _) (hesR.mono fun q hq => .tail _ (List.mem_append_left _ hq)) (fun e he => (hEok e he).1) (by rw [hes5]; decide) (fun e he => (hEok e he).2) ?s1 (IvA m0 m1 (Pof rl)) ?s2) ?kB ?kF ?kX ?kN ?kT ?kK ?kd ?ku ?_; (case kF => exact F13); (case kN => exact N13); (case kB => k_asm); (case kX => k_asm); (case kT => k_asm); (case kK => first | exact rfl | assumption); (case kd => ktr_room); (case ku => ktr_units))
      case s1 =>
        intro p hp
        rw [hst] at hp
        obtain ⟨q, _, rfl⟩ := List.mem_map.mp hp
        exact stepA_lens hm0s hm1s q
      case s2 =>
        rw [hst]; exact run_ok hm0s hm1s hmne (Pof rl)
      intro r14 nw14 h14 tk14 F14 N14 hp14
      obtain ⟨Y, dy, hl2, es2, k2, d2, tk2, tl3, e14, f14, hY, hdy, hes2, hsub, ⟨es, hes, I0⟩, hd2⟩ := hp14
      subst e14; subst f14
      clear F13 N13
      have hd3 : d2 = es.length := by
        have h1 := I0.le
        have h2 := congrArg List.length hes
        rw [ents_length, List.length_map] at h2
        omega
      subst hd3
      have hes15 : es2.length ≤ 15 := Nat.le_trans hd2 I0.short
      k_steps
      refine Stop.mk ?_
      rename Fr _ _ _ _ => F15
      rename News _ _ _ _ => N15
      k_dflt (refine LCg.ListComp_U F15 (by with_unfolding_all rfl) (by decide) (by rfl) (by decide) (by rfl) ?_)
      k_steps
      refine Stop.mk ?_
      k_dflt (refine' Mine.ConK.use (values_con _ ((hl2, listOf (hvals es2).toArray k2) :: tl3) Y dy hl2 es2 k2 tk2 (Nat.le_trans hes15 (by decide)) (.tail _ hY) (.tail _ hdy) (.head _) (hes2.mono fun q hq => .tail _ hq)) ?kB ?kF ?kX ?kN ?kT ?kK ?kd ?ku ?_; (case kF => exact F15); (case kN => exact N15); (case kB => k_asm); (case kX => k_asm); (case kT => k_asm); (case kK => first | exact rfl | assumption); (case kd => ktr_room); (case ku => ktr_units))
      intro r16 nw16 h16 tk16 F16 N16 hp16
      obtain ⟨D4, e16, f16⟩ := hp16
      subst e16; subst f16
      clear F15 N15
      k_steps
      refine Stop.mk ?_
      have hvl : (es2.map fun e => (e.v, e.tv)).length ≤ 15 := by rw [List.length_map]; exact hes15
      refine LCg.CompSrc.ledger (by rfl) F16 N16 (.head _) (by rw [List.size_toArray, strValues_length, sizeLine_eq]; omega) ?_
      intro g17
      refine restU_inv (vs := strValues (es2.map fun e => (e.v, e.tv))) (fun i ys => IntsAre ys ((es.take i).map fun e => (e.2.length : Int))) .nil ?_ ?_
      · rintro i v ys I oI C oC D m₂ h tk E' hv hys hC hx F N off ne
        obtain ⟨x, tx, rfl, hxi⟩ := strValues_get hv
        obtain ⟨e, hei, hxe⟩ := vals_enc hes hxi
        obtain ⟨_, _, _, _, _, _, hcnt⟩ := chk_word hm0s hm1s (I0.le2 e (List.mem_of_getElem? hei))
        rw [← hxe] at hcnt
        k_steps
        refine LCg.CompEnd.intro (by assumption) (by assumption) _ (fun p hp => hp) off (.inr ⟨_, .head _, rfl, _, rfl⟩) ⟨rfl, ?_⟩
        rw [take_snoc hei, List.map_append]
        refine hys.append ?_
        rw [hcnt, half_cnt]
        exact .cons _ _ .nil
      · intro ys hys
        intro D5 h17 tk17 F17 N17 off17
        rw [strValues_length, List.length_map] at hys
        have hesl : es2.length = es.length := by
          have := congrArg List.length hes
          rw [ents_length, List.length_map] at this; exact this
        rw [hesl, List.take_length] at hys
        clear F16 N16
        k_steps
        refine Stop.mk ?_
        have hesp : 0 < (es.map fun e => (e.2.length : Int)).length := by
          rw [List.length_map]
          exact (List.getElem?_eq_some_iff.mp I0.top).1
        refine max_list_N (by rfl) F17 N17 ⟨_, (N17 _ (.head _)).1, rfl, _, rfl⟩ hys hesp ?_
        intro h18 M tM tk18 F18 N18 hM hMm
        obtain ⟨eM, heM, rfl⟩ := List.mem_map.mp hM
        have hk2 : eM.2.length ≤ 2 := I0.le2 eM heM
        obtain ⟨kM, hkM⟩ : ∃ kM, kM = eM.2.length := ⟨_, rfl⟩
        have hlt : ∀ e ∈ es, e.2.length < 1 + kM := fun e he => by
          have := hMm _ (List.mem_map.mpr ⟨e, he, rfl⟩)
          omega
        rw [← hkM] at hk2 ⊢
        have hsub2 : ∀ q ∈ B2, q ∈ tl3 := fun q hq => hsub _ (.tail _ (List.mem_append_right _ hq))
        obtain ⟨B3, hB3⟩ : ∃ b : Led, b = (D5, LCg.lst ys) :: (D4, LCg.lst (strValues (es2.map fun e => (e.v, e.tv)))) :: (hl2, listOf (hvals es2).toArray k2) :: tl3 := ⟨_, rfl⟩
        rw [← hB3] at N18
        have hb3 : ∀ q ∈ tl3, q ∈ B3 := fun q hq => by rw [hB3]; exact .tail _ (.tail _ (.tail _ hq))
        have hY3 := hb3 _ hY
        have hdy3 := hb3 _ hdy
        have hh3 : (hl2, listOf (hvals es2).toArray k2) ∈ B3 := by rw [hB3]; exact .tail _ (.tail _ (.head _))
        have hes3 : EntsIn B3 es2 := hes2.mono hb3
        have hD33 := hb3 _ (hsub2 _ hD3)
        have hrs3 : RowsIn B3 rs := hrsB.mono fun q hq => hb3 _ (hsub2 _ hq)
        have hbm3 := hb3 _ (hsub2 _ hbm2)
        have hbc3 := hb3 _ (hsub2 _ hbc2)
        clear hB3 hb3 hsub2 hsub hY hdy hes2 hD3 hrsB hbm2 hbc2 hbD2 off17 F17 N17 hM
        k_steps
        refine Stop.mk ?_
        rename Fr _ _ _ _ => F19
        rename News _ _ _ _ => N19
        k_dflt (refine' Mine.ConK.use (words_con _ B3 (1 + kM) _ (by omega) (by omega)) ?kB ?kF ?kX ?kN ?kT ?kK ?kd ?ku ?_; (case kF => exact F19); (case kN => exact N19); (case kB => k_asm); (case kX => k_asm); (case kT => k_asm); (case kK => first | exact rfl | assumption); (case kd => ktr_room); (case ku => ktr_units))
        intro r20 nw20 h20 tk20 F20 N20 hp20
        obtain ⟨W, ws, kw, e20, hws, f20⟩ := hp20
        subst e20; subst f20
        clear F19 N19
        k_steps
        refine Stop.mk ?_
        rename Fr _ _ _ _ => F21
        rename News _ _ _ _ => N21
        have hwsl : ∀ p ∈ ws, p.1.length ≤ 10 := fun p hp => by
          have h1 : p.1 ∈ wordsOf (1 + kM) := by rw [← hws]; exact List.mem_map.mpr ⟨p, hp, rfl⟩
          rw [words_bits] at h1
          obtain ⟨w, hw, e⟩ := List.mem_map.mp h1
          rw [← e, bits_length]
          have := mem_wordsW.mp hw
          omega
        have hwsn : ws.length ≤ 100 := by
          have h1 := congrArg List.length hws
          rw [List.length_map, words_count] at h1
          have : 2 ^ (1 + kM + 1) ≤ 2 ^ 4 := Nat.pow_le_pow_right (by decide) (by omega)
          omega
        have hrlen : ∀ r ∈ rs, r.b.length ≤ 10 ∧ r.d.length ≤ 10 ∧ r.sg.length ≤ 10 ∧ r.g.length ≤ 10 := fun r hr => by
          obtain ⟨p, hp⟩ := hrlr r hr
          exact hp.lens
        k_dflt (refine' Mine.ConK.use (home_con _ ((W, listOf (strValues ws).toArray kw) :: B3) D3 W rs 5 kw ws ((1 + kM : Nat) : Int) _ (PK es) (.tail _ hD33) (hrs3.mono fun q hq => .tail _ hq) hrlen (.head _) hwsl hwsn ?p0 ?p1) ?kB ?kF ?kX ?kN ?kT ?kK ?kd ?ku ?_; (case kF => exact F21); (case kN => exact N21); (case kB => k_asm); (case kX => k_asm); (case kT => k_asm); (case kK => first | exact rfl | assumption); (case kd => ktr_room); (case ku => ktr_units))
        case p0 =>
          intro x hx
          rw [hws, words_bits] at hx
          obtain ⟨w, _, rfl⟩ := List.mem_map.mp hx
          exact PK_c w
        case p1 =>
          intro c hc x hx st hst hl
          rw [hws] at hx
          exact PK_step hrl I0 (by omega) hc hx hst hl
        intro r22 nw22 h22 tk22 F22 N22 hp22
        obtain ⟨Hm, oH, c, e22, f22, hDH, hcP, hcF, hcC⟩ := hp22
        subst e22; subst f22
        clear F21 N21
        rw [hws] at hcF hcC
        k_steps
        rename_i H9 hh23 o23 F23 N23 lo9 hd9 l9
        have hnn : ∀ e ∈ es2, e.n.length ≤ 300 := fun e he => by
          have h1 : (e.n, e.v) ∈ es.map (encE m0 m1) := by rw [← hes]; exact List.mem_map.mpr ⟨e, he, rfl⟩
          obtain ⟨⟨g, u⟩, _, h2⟩ := List.mem_map.mp h1
          have : gn g = e.n := congrArg Prod.fst h2
          rw [← this]
          exact Nat.le_trans (gn_len g) (by decide)
        have hes1000 : es2.length ≤ 1000 := Nat.le_trans hes15 (by decide)
        refine Stop.mk ?_
        k_dflt (refine' Mine.ConK.use (getall_con _ _ Y dy hl2 es2 k2 (Str.ofString "A") _ tk2 ?g1 ?g2 ?g3 ?g4 ?g5 ?g6 ?g7 hnn hes1000) ?kB ?kF ?kX ?kN ?kT ?kK ?kd ?ku ?_; (case kF => exact F23); (case kN => exact N23); (case kB => k_asm); (case kX => k_asm); (case kT => k_asm); (case kK => first | exact rfl | assumption); (case kd => ktr_room); (case ku => ktr_units))
        case g1 => decide +kernel
        case g2 => decide +kernel
        case g3 => decide +kernel
        case g4 => exact .tail _ (.tail _ (.tail _ hY3))
        case g5 => exact .tail _ (.tail _ (.tail _ hdy3))
        case g6 => exact .tail _ (.tail _ (.tail _ hh3))
        case g7 => exact hes3.mono fun q hq => .tail _ (.tail _ (.tail _ hq))
        intro r24 nw24 h24 tk24 F24 N24 hp24
        obtain ⟨DA, e24, f24, hoffA⟩ := hp24
        subst e24; subst f24
        clear F23 N23
        k_steps
        refine Stop.mk ?_
        rename Fr _ _ _ _ => F25
        rename News _ _ _ _ => N25
        k_dflt (refine' Mine.ConK.use (getall_con _ _ Y dy hl2 es2 k2 (Str.ofString "B") _ tk2 ?g1 ?g2 ?g3 ?g4 ?g5 ?g6 ?g7 hnn hes1000) ?kB ?kF ?kX ?kN ?kT ?kK ?kd ?ku ?_; (case kF => exact F25); (case kN => exact N25); (case kB => k_asm); (case kX => k_asm); (case kT => k_asm); (case kK => first | exact rfl | assumption); (case kd => ktr_room); (case ku => ktr_units))
        case g1 => decide +kernel
        case g2 => decide +kernel
        case g3 => decide +kernel
        case g4 => exact .tail _ (.tail _ (.tail _ (.tail _ hY3)))
        case g5 => exact .tail _ (.tail _ (.tail _ (.tail _ hdy3)))
        case g6 => exact .tail _ (.tail _ (.tail _ (.tail _ hh3)))
        case g7 => exact hes3.mono fun q hq => .tail _ (.tail _ (.tail _ (.tail _ hq)))
        intro r26 nw26 h26 tk26 F26 N26 hp26
        obtain ⟨DB, e26, f26, hoffB⟩ := hp26
        subst e26; subst f26
        clear F25 N25
        k_steps
        k_dflt (refine' kdn_made_str (news := (_, _) :: (DB, LCg.lst (strValues (picked (Str.ofString "B") es2))) :: (DA, LCg.lst (strValues (picked (Str.ofString "A") es2))) :: (Hm, oH) :: (W, listOf (strValues ws).toArray kw) :: B3) ?kF ?kN (.head ?kO) hd9 ?kk ?kn ?_; (case kF => exact F26); (case kk => rfl); (case kn => exact of_decide_eq_true (by first | rfl | kernel_rfl!)))
        case kN =>
          refine sub_news N26 fun q hq => ?_
          simp only [List.mem_cons] at hq ⊢
          rcases hq with rfl | rfl | rfl | hq
          · exact .inr (.inr (.inl rfl))
          · exact .inl rfl
          · exact .inr (.inl rfl)
          · exact .inr (.inr (.inr hq))
        case kO =>
          intro q hq
          simp only [List.mem_cons] at hq
          rcases hq with rfl | rfl | rfl | rfl | hq
          · exact (hoffB _ (.tail _ (.head _))).symm
          · exact (hoffA _ (.head _)).symm
          · exact Nat.ne_of_lt l9.1
          · exact Nat.ne_of_lt l9.2.1
          · exact Nat.ne_of_lt (AllLt.mem l9.2.2 q hq)
        intro h27 o27 F27 N27 hd27
        clear F26 N26 hd9
        k_steps
        refine Stop.mk ?_
        rename Fr _ _ _ _ => F28
        rename News _ _ _ _ => N28
        obtain ⟨B4, hB4⟩ : ∃ b : Led, b = (H9, o27) :: (DB, LCg.lst (strValues (picked (Str.ofString "B") es2))) :: (DA, LCg.lst (strValues (picked (Str.ofString "A") es2))) :: (Hm, oH) :: (W, listOf (strValues ws).toArray kw) :: B3 := ⟨_, rfl⟩
        rw [← hB4] at N28
        have h9o : (H9, o27) ∈ B4 := by rw [hB4]; exact .head _
        have h9B : (DB, LCg.lst (strValues (picked (Str.ofString "B") es2))) ∈ B4 := by rw [hB4]; exact .tail _ (.head _)
        have h9A : (DA, LCg.lst (strValues (picked (Str.ofString "A") es2))) ∈ B4 := by rw [hB4]; exact .tail _ (.tail _ (.head _))
        have h9H : (Hm, oH) ∈ B4 := by rw [hB4]; exact .tail _ (.tail _ (.tail _ (.head _)))
        have h9W : (W, listOf (strValues ws).toArray kw) ∈ B4 := by rw [hB4]; exact .tail _ (.tail _ (.tail _ (.tail _ (.head _))))
        have hb4 : ∀ q ∈ B3, q ∈ B4 := fun q hq => by rw [hB4]; exact .tail _ (.tail _ (.tail _ (.tail _ (.tail _ hq))))
        have h9m := hb4 _ hbm3
        have h9c := hb4 _ hbc3
        clear hB4 hb4 hbm3 hbc3 hY3 hdy3 hh3 hes3 hD33 hrs3 hoffA hoffB l9
        refine For_turns F28 ?_
        k_steps
        refine Stop.mk ?_
        refine turns_list (vs := strValues ws) (k := kw) (nx₀ := B4) (fun i m nx => nx = B4 ∧ m (Str.ofString "home") = some (.ref Hm) ∧ m (Str.ofString "held") = some (.ref H9)) rfl F28 N28 (fun _ h => h) ⟨rfl, rfl, rfl⟩ ?_ ?_ ?_
        · rintro i m nx ⟨rfl, _⟩
          exact h9W
        · clear F28 N28
          rintro I hI i v m₁ nx h tk oI hv ⟨rfl, q1, q2⟩ hoff F3 N3
          have F4 := know2 F3 q1 q2
          clear F3
          obtain ⟨x, tx, rfl, hx⟩ := strValues_get hv
          rw [hws, words_bits] at hx
          obtain ⟨w, hw, hxw⟩ := List.mem_map.mp (List.mem_of_getElem? hx)
          have hwl := mem_wordsW.mp hw
          subst hxw
          k_steps
          refine Stop.mk ?_
          rename Fr _ _ _ _ => F5
          rename News _ _ _ _ => N5
          k_dflt (refine ListComp_S (by rfl) F5 N5 (by with_unfolding_all rfl) (by decide) (by rfl) (by decide) (by rfl) (bits_ascii w) (by have := bits_length w; unfold Str.length at this; omega) (fun Q hQ => wpAny_Name (wpAny_loadName_local rfl rfl F5.ns (by rfl) hQ)) ?_)
          intro g5
          refine restG_inv (fun i ys => ∃ l : List (Str × Tok), ys = strValues l ∧ l.map (·.1) = (w.take i).map fun s => ltr (msg m0 m1 s)) ⟨[], rfl, rfl⟩ ?_ ?_
          · rintro i2 v2 ys I2 oI2 C2 oC2 D2 m₂ h2 tk2 E' hi2 ⟨cc, u2, hcc, rfl⟩ ⟨l2, rfl, hl2⟩ hC2 hx2 F N off ne
            clear F5 N5
            try clear F4
            try clear N3
            obtain ⟨b, hb, rfl⟩ := bits_at hcc
            have hwt : (w.take (i2 + 1)).map (fun s => ltr (msg m0 m1 s)) = (w.take i2).map (fun s => ltr (msg m0 m1 s)) ++ [ltr (msg m0 m1 b)] := by
              rw [take_snoc hb, List.map_append]; rfl
            have hnb : (⟨#[dig b]⟩ : Str) = (if b then Str.ofString "1" else Str.ofString "0") := by cases b <;> decide +kernel
            cases b
            · replace hnb : (⟨#[dig false]⟩ : Str) = Str.ofString "0" := hnb
              rw [hnb] at hx2
              k_steps
              refine Stop.mk ?_
              rename News _ _ _ _ => N6
              k_dflt (refine' Mine.item_listN N6 ?k2 (by decide) (by decide) ?k3 ?_; (case k2 => k_mem); (case k3 => rfl))
              (try dsimp only)
              k_steps
              refine LCg.CompEnd.intro (by assumption) (by assumption) _ (fun p hp => hp) off trivial ⟨rfl, snoc_texts hl2 hwt⟩
            · replace hnb : (⟨#[dig true]⟩ : Str) = Str.ofString "1" := hnb
              rw [hnb] at hx2
              k_steps
              refine Stop.mk ?_
              rename News _ _ _ _ => N6
              k_dflt (refine' Mine.item_listN N6 ?k2 (by decide) (by decide) ?k3 ?_; (case k2 => k_mem); (case k3 => rfl))
              (try dsimp only)
              k_steps
              refine LCg.CompEnd.intro (by assumption) (by assumption) _ (fun p hp => hp) off trivial ⟨rfl, snoc_texts hl2 hwt⟩
          · rintro ys ⟨l2, rfl, hl2⟩
            intro D6 h6 tk6 F6 N6 off6
            try clear F5 N5
            try clear F4
            try clear N3
            rw [show (bits w).cps.size = w.length from bits_length w, List.take_length] at hl2
            k_steps
            refine Stop.mk ?_
            k_dflt (refine join_listC (News.isList N6 (.head _)) (by rw [List.toList_toArray]; exact strsAre_v l2) (by decide) ?jk ?_)
            case jk =>
              rw [hl2]
              have := sum_enc hm0s hm1s w
              rw [List.length_map]
              omega
            intro tt kk
            rw [hl2, join_enc]
            k_steps
            refine Stop.mk ?_
            rename Fr _ _ _ _ => F7
            rename News _ _ _ _ => N7
            refine For_turns F7 ?_
            k_steps
            refine Stop.mk ?_
            refine turns_str (ys := ab) (nx₀ := (I, oI) :: nx) (fun i m nx' => nx' = (I, oI) :: nx ∧ m (Str.ofString "home") = some (.ref Hm) ∧ m (Str.ofString "held") = some (.ref H9) ∧ m (Str.ofString "word") = some (.str (bits w) tx) ∧ m (Str.ofString "text") = some (.str (encT m0 m1 w) tt)) rfl F7 N7 (fun _ h => .tail _ h) ⟨rfl, rfl, rfl, rfl, rfl⟩ str_ab' str_ab ?_ ?_
            · clear F7 N7
              try clear F6
              try clear N6
              rintro I3 hI3 i3 st tst m₃ nx3 h3 tk3 oI3 hst ⟨rfl, p1, p2, p3, p4⟩ hoff3 F8 N8
              have hlA : ((pickS (Str.ofString "A") (es.map (encE m0 m1))).any fun x => finds x (encT m0 m1 w)) = decide (Str.ofString "a" ++ bits w ∈ c) := by rw [← up_a]; exact law_end hm0s hm1s hmne hrl I0 (by omega) hlt hcP hcF hcC hwl false
              have hlB : ((pickS (Str.ofString "B") (es.map (encE m0 m1))).any fun x => finds x (encT m0 m1 w)) = decide (Str.ofString "b" ++ bits w ∈ c) := by rw [← up_b]; exact law_end hm0s hm1s hmne hrl I0 (by omega) hlt hcP hcF hcC hwl true
              rcases ab_or hst with rfl | rfl
              · have F9 := know4 F8 p1 p2 p3 p4
                clear F8
                k_steps
                refine Stop.mk ?_
                have k9o : (H9, o27) ∈ (I3, oI3) :: (I, oI) :: nx := .tail _ (.tail _ h9o)
                have k9A : (DA, LCg.lst (strValues (picked (Str.ofString "A") es2))) ∈ (I3, oI3) :: (I, oI) :: nx := .tail _ (.tail _ h9A)
                have k9B : (DB, LCg.lst (strValues (picked (Str.ofString "B") es2))) ∈ (I3, oI3) :: (I, oI) :: nx := .tail _ (.tail _ h9B)
                have k9H : (Hm, oH) ∈ (I3, oI3) :: (I, oI) :: nx := .tail _ (.tail _ h9H)
                k_dflt (refine kda_item (knd := PySem.strKind _ _) (by k_asm) k9o hd27 (strKind_is _ _ _ _) (by rfl) ?_)
                k_steps
                refine Stop.mk ?_
                rename Fr _ _ _ _ => F10
                rename News _ _ _ _ => N10
                have hwant : ∀ p ∈ picked (Str.ofString "A") es2, WantOK p.1 := fun p hp => by
                  obtain ⟨e, he, rfl⟩ := List.mem_map.mp hp
                  have hm := (List.mem_filter.mp he).1
                  have he2 : (e.n, e.v) ∈ es.map (encE m0 m1) := hes ▸ List.mem_map.mpr ⟨e, hm, rfl⟩
                  obtain ⟨e3, h3m, h3e⟩ := List.mem_map.mp he2
                  have hv3 : e.v = encT m0 m1 e3.2 := (congrArg Prod.snd h3e).symm
                  show WantOK e.v
                  rw [hv3]
                  exact want_enc hm0s hm1s (I0.le2 e3 h3m)
                have htl := enc_short hm0s hm1s w
                have hbl : (bits w).length ≤ 3 := by rw [bits_length]; omega
                k_dflt (refine' Mine.ConK.use (held_con _ _ _ _ _ _ _ ?z1 ?z2 ?z3) ?kB ?kF ?kX ?kN ?kT ?kK ?kd ?ku ?_; (case kB => k_asm); (case kF => exact F10); (case kX => k_asm); (case kN => exact N10); (case kT => exact TT2); (case kK => first | exact rfl | assumption); (case kd => ktr_room); (case ku => ktr_units); (case z2 => exact k9A); (case z1 => omega); (case z3 => exact hwant))
                intro r11 nw11 h11 tk11 F11 N11 hp11
                obtain ⟨e11, f11⟩ := hp11
                subst e11; subst f11
                try clear F10 N10
                rw [any_picked (Str.ofString "A") es2 (fun x => finds x (encT m0 m1 w)), hes, hlA]
                k_steps
                refine Stop.mk ?_
                k_dflt (refine home_in (by k_asm) (hDH.home k9H) (fun _ h => h) ?_)
                k_steps
                show TurnEnd' _ _ _ _ _ _ _
                refine TurnEnd'.mk' (nx := (I, oI) :: nx) (by assumption) (by assumption) (.head _) (fun q hq => .tail _ hq) hoff3 ⟨rfl, rfl, rfl, rfl, rfl⟩
              · have F9 := know4 F8 p1 p2 p3 p4
                clear F8
                k_steps
                refine Stop.mk ?_
                have k9o : (H9, o27) ∈ (I3, oI3) :: (I, oI) :: nx := .tail _ (.tail _ h9o)
                have k9A : (DA, LCg.lst (strValues (picked (Str.ofString "A") es2))) ∈ (I3, oI3) :: (I, oI) :: nx := .tail _ (.tail _ h9A)
                have k9B : (DB, LCg.lst (strValues (picked (Str.ofString "B") es2))) ∈ (I3, oI3) :: (I, oI) :: nx := .tail _ (.tail _ h9B)
                have k9H : (Hm, oH) ∈ (I3, oI3) :: (I, oI) :: nx := .tail _ (.tail _ h9H)
                k_dflt (refine kda_item (knd := PySem.strKind _ _) (by k_asm) k9o hd27 (strKind_is _ _ _ _) (by rfl) ?_)
                k_steps
                refine Stop.mk ?_
                rename Fr _ _ _ _ => F10
                rename News _ _ _ _ => N10
                have hwant : ∀ p ∈ picked (Str.ofString "B") es2, WantOK p.1 := fun p hp => by
                  obtain ⟨e, he, rfl⟩ := List.mem_map.mp hp
                  have hm := (List.mem_filter.mp he).1
                  have he2 : (e.n, e.v) ∈ es.map (encE m0 m1) := hes ▸ List.mem_map.mpr ⟨e, hm, rfl⟩
                  obtain ⟨e3, h3m, h3e⟩ := List.mem_map.mp he2
                  have hv3 : e.v = encT m0 m1 e3.2 := (congrArg Prod.snd h3e).symm
                  show WantOK e.v
                  rw [hv3]
                  exact want_enc hm0s hm1s (I0.le2 e3 h3m)
                have htl := enc_short hm0s hm1s w
                have hbl : (bits w).length ≤ 3 := by rw [bits_length]; omega
                k_dflt (refine' Mine.ConK.use (held_con _ _ _ _ _ _ _ ?z1 ?z2 ?z3) ?kB ?kF ?kX ?kN ?kT ?kK ?kd ?ku ?_; (case kB => k_asm); (case kF => exact F10); (case kX => k_asm); (case kN => exact N10); (case kT => exact TT2); (case kK => first | exact rfl | assumption); (case kd => ktr_room); (case ku => ktr_units); (case z2 => exact k9B); (case z1 => omega); (case z3 => exact hwant))
                intro r11 nw11 h11 tk11 F11 N11 hp11
                obtain ⟨e11, f11⟩ := hp11
                subst e11; subst f11
                try clear F10 N10
                rw [any_picked (Str.ofString "B") es2 (fun x => finds x (encT m0 m1 w)), hes, hlB]
                k_steps
                refine Stop.mk ?_
                k_dflt (refine home_in (by k_asm) (hDH.home k9H) (fun _ h => h) ?_)
                k_steps
                show TurnEnd' _ _ _ _ _ _ _
                refine TurnEnd'.mk' (nx := (I, oI) :: nx) (by assumption) (by assumption) (.head _) (fun q hq => .tail _ hq) hoff3 ⟨rfl, rfl, rfl, rfl, rfl⟩
            · clear F7 N7
              try clear F6
              try clear N6
              rintro m₃ nx3 h3 tk3 ⟨rfl, p1, p2, p3, p4⟩ F8 N8
              k_steps
              refine TurnEnd'.mk' (by assumption) (by assumption) (.head _) (fun q hq => .tail _ hq) hoff ⟨rfl, p1, p2⟩
        · clear F28 N28
          rintro m₁ nx h tk ⟨rfl, q1, q2⟩ F3 N3
          k_steps)
end Mine
end

end
end

theorem PySem.Challenge.cw_re0169_01_holds : PySem.Challenge.rw_re0169_01.Holds := by
  exact Mine.law_holds
